import JvmDerived
import JvmDerived.Pilot.@@N@@Statement
import JvmDerived.Pilot.@@N@@Code
set_option linter.unusedVariables false
set_option linter.unusedSimpArgs false
namespace Jvm.Pilot.@@N@@
open Jvm Jvm.ClassFile Sem Op Lib Jvm.Free Jvm.Stand Jvm.LawKit Jvm.RoadKit Bundle Jvm.Pilot.@@N@@.Jvm.D
section OwnKit
variable {p : Program} {l : Launch} {e : Env} {R : Room} {s : State} {m : MethodId} {args : Array Value} {below : List Frame} {meth : Method} {c : Code} {T : State} {locs : List Loc} {cells slots : Nat} {Z : State} {a0 : Array Value} {h : Heap} {Q : Option Value → Heap → List Loc → Prop} {kc ks : Nat}
/-- from the state F the run comes to its return, with what Q says -/
def OGo (p : Program) (e : Env) (below : List Frame) (s : State) (Q : Option Value → Heap → List Loc → Prop) (kc ks : Nat) (F : State) : Prop :=
  ∃ (s₂ : State) (o : Outcome), Steps p.tables e below F s₂ ∧ s₂.status = .running ∧ Ended s₂ below o ∧ ∃ v L, o = .returned v ∧ Q v s₂.heap L ∧ FrameEnd s o s₂ L kc ks
theorem OGo.step {F F' : State} (k : ∀ t, Steps p.tables e below F' t → Steps p.tables e below F t) (g : OGo p e below s Q kc ks F') : OGo p e below s Q kc ks F := by
  obtain ⟨s₂, o, h, r⟩ := g
  exact ⟨s₂, o, k _ h, r⟩
theorem OGo.retOut (X : Stand p l e R s m args below meth c T locs cells slots) (hx : p.tables.exec = Jvm.exec) (hlk : meth.locks = false) {pc : Nat} {Ls : Array Slot} {w : Value} {t : FieldType} {i : Instr} {rest : List Value} (hret : meth.sig.returnType = some t) (hn : narrow t w = w)
    (hi : (i = .ireturn ∧ (t = .int ∨ t = .boolean ∨ t = .byte ∨ t = .char ∨ t = .short) ∧ ∃ z, w = .int z) ∨ (i = .lreturn ∧ t = .long ∧ ∃ z, w = .long z) ∨ (i = .dreturn ∧ t = .double ∧ ∃ z, w = .double z) ∨ (i = .freturn ∧ t = .float ∧ ∃ z, w = .float z) ∨ (i = .areturn ∧ t.isReference = true ∧ w.isRef = true))
    (hd : decode c.code pc = .ok (i, 1)) (hQ : Q (some w) T.heap locs) (hc : cells ≤ kc) (hs : slots ≤ ks) : OGo p e below s Q kc ks (T.setTop (mkF m pc Ls (w :: rest))) := by
  obtain ⟨fs, hr, hrun, hended, hW, hsame⟩ := X.leave (v := some w) (fun h => by rw [hret] at h; cases h) hlk
  exact ⟨_, _, Jvm.RoadKit.retOut X hx hret hn hi hd hr, hrun, hended, _, _, rfl, hQ, ⟨_, rfl⟩, hW, hsame.mono hc hs⟩
theorem OGo.retI (X : Stand p l e R s m args below meth c T locs cells slots) (hx : p.tables.exec = Jvm.exec) (hlk : meth.locks = false) {pc : Nat} {Ls : Array Slot} {z : Int32} {rest : List Value} (hret : meth.sig.returnType = some .int) (hd : decode c.code pc = .ok (.ireturn, 1)) (hQ : Q (some (.int z)) T.heap locs) (hc : cells ≤ kc) (hs : slots ≤ ks) :
    OGo p e below s Q kc ks (T.setTop (mkF m pc Ls (.int z :: rest))) := OGo.retOut X hx hlk hret rfl (Or.inl ⟨rfl, Or.inl rfl, _, rfl⟩) hd hQ hc hs
theorem OGo.retJ (X : Stand p l e R s m args below meth c T locs cells slots) (hx : p.tables.exec = Jvm.exec) (hlk : meth.locks = false) {pc : Nat} {Ls : Array Slot} {z : Int64} {rest : List Value} (hret : meth.sig.returnType = some .long) (hd : decode c.code pc = .ok (.lreturn, 1)) (hQ : Q (some (.long z)) T.heap locs) (hc : cells ≤ kc) (hs : slots ≤ ks) :
    OGo p e below s Q kc ks (T.setTop (mkF m pc Ls (.long z :: rest))) := OGo.retOut X hx hlk hret rfl (Or.inr (Or.inl ⟨rfl, rfl, _, rfl⟩)) hd hQ hc hs
theorem OGo.retA (X : Stand p l e R s m args below meth c T locs cells slots) (hx : p.tables.exec = Jvm.exec) (hlk : meth.locks = false) {pc : Nat} {Ls : Array Slot} {w : Value} {t : FieldType} {rest : List Value} (hret : meth.sig.returnType = some t) (ht : t.isReference = true) (hw : w.isRef = true) (hn : narrow t w = w) (hd : decode c.code pc = .ok (.areturn, 1)) (hQ : Q (some w) T.heap locs) (hc : cells ≤ kc) (hs : slots ≤ ks) :
    OGo p e below s Q kc ks (T.setTop (mkF m pc Ls (w :: rest))) := OGo.retOut X hx hlk hret hn (Or.inr (Or.inr (Or.inr (Or.inr ⟨rfl, ht, hw⟩)))) hd hQ hc hs
theorem OGo.retZ (X : Stand p l e R s m args below meth c T locs cells slots) (hx : p.tables.exec = Jvm.exec) (hlk : meth.locks = false) {pc : Nat} {Ls : Array Slot} {z z' : Int32} {t : FieldType} {rest : List Value} (hret : meth.sig.returnType = some t) (ht : t = .boolean ∨ t = .byte ∨ t = .char ∨ t = .short) (hd : decode c.code pc = .ok (.ireturn, 1)) (hz : nar t z = z') (hQ : Q (some (.int z')) T.heap locs) (hc : cells ≤ kc) (hs : slots ≤ ks) :
    OGo p e below s Q kc ks (T.setTop (mkF m pc Ls (.int z :: rest))) := by
  subst hz
  obtain ⟨fs, hr, hrun, hended, hW, hsame⟩ := X.leave (v := some (.int (nar t z))) (fun h => by rw [hret] at h; cases h) hlk
  exact ⟨_, _, Jvm.RoadKit.retN X hx hret ht hd hr, hrun, hended, _, _, rfl, hQ, ⟨_, rfl⟩, hW, hsame.mono hc hs⟩
theorem OGo.retV (X : Stand p l e R s m args below meth c T locs cells slots) (hx : p.tables.exec = Jvm.exec) (hlk : meth.locks = false) {pc : Nat} {Ls : Array Slot} (hret : meth.sig.returnType = none) (hd : decode c.code pc = .ok (.return_, 1)) (hQ : Q none T.heap locs) (hc : cells ≤ kc) (hs : slots ≤ ks) :
    OGo p e below s Q kc ks (T.setTop (mkF m pc Ls [])) := by
  obtain ⟨fs, hr, hrun, hended, hW, hsame⟩ := X.leave (v := none) (fun _ => rfl) hlk
  exact ⟨_, _, X.returnOut hx hret hd hr, hrun, hended, _, _, rfl, hQ, ⟨_, rfl⟩, hW, hsame.mono hc hs⟩
/-- a body's contract -/
abbrev OCtr (l : Launch) (Z : State) (y : MethodName) (bytes : ByteArray) (maxL : Nat) (ret : Option FieldType) (ws : List Jvm.Cond) (rm : Room) (as' : Array Value) (h0 : Heap) (Q : Option Value → Heap → List Loc → Prop) : Prop :=
  MetFree l y (head1 (Jvm.Cond.code y bytes maxL ret :: ws) rm) (fun a U => a = as' ∧ Z.Warmed39 U.vm ∧ U.heap = h0) (fun _ _ _ _ _ => True) (fun _ U o U' => ∃ v L, o = .returned v ∧ Q v U'.heap L ∧ FrameEnd U o U' L rm.cells rm.slots)
theorem OCtr.of {y : MethodName} {bytes : ByteArray} {maxL : Nat} {ret : Option FieldType} {ws : List Jvm.Cond} {rm : Room} {as' : Array Value} (hp : plainFor y = true)
    (k : ∀ (p : Program) (e : Env) (s : State) (m : MethodId) (below : List Frame) (meth : Method) (c : Code) (s₁ : State), Stand p l e rm s m as' below meth c s₁ [] 0 0 → p.tables.exec = Jvm.exec → meth.locks = false → Z.Warmed39 s.vm → s.vm.findClass y.cls = some m.cls → meth.name = y.name → c.code = bytes → c.maxLocals = maxL → meth.sig.returnType = ret → s₁.heap = h →
      OGo p e below s Q rm.cells rm.slots (s₁.setTop (entryFrame m as' maxL))) : OCtr l Z y bytes maxL ret ws rm as' h Q := by
  refine MetFree.of_bodySF hp hisR ?_
  intro p e s m args below meth c s₁ Bd hml0 hP hK
  obtain ⟨rfl, hZ, hh⟩ := hP
  exact k p e s m below meth c s₁ (Stand.of_body Bd) Bd.exec Bd.notSynchronized hZ (findClass_of_methodNamed Bd.named) (name_of_methodNamed Bd.named Bd.method).1 Bd.bytes hml0 Bd.returns (by rw [← hh, Bd.state]; rfl)
/-- it returns w, and the heap is as it was -/
def OPure (w : Option Value) (h0 : Heap) (n0 : Nat) : Option Value → Heap → List Loc → Prop := fun v h L => v = w ∧ Fr n0 L ∧ h = h0
theorem OGo.callS (X : Stand p l e R s m args below meth c T locs cells slots) (hx : p.tables.exec = Jvm.exec) (hZ : Z.Warmed39 s.vm) {own : String} {index : Nat} {y : MethodName} {bytes : ByteArray} {maxL : Nat} {ret : Option FieldType} (hown : s.vm.findClass own = some m.cls)
    (wl : (Jvm.Cond.methodLink own index y).before a0 Z = true) (wst : (Jvm.Cond.static y).before a0 Z = true) (wi : (Jvm.Cond.initialized y.cls).before a0 Z = true) (wc : (Jvm.Cond.code y bytes maxL ret).before a0 Z = true) (hy : y.cls ≠ "java/lang/invoke/MethodHandle" ∧ y.cls ≠ "java/lang/invoke/VarHandle")
    {rm : Room} {as' : Array Value} {Q' : Option Value → Heap → List Loc → Prop} (hM : OCtr l Z y bytes maxL ret [] rm as' h Q') {W : Nat} (hf : rm.frames + 1 ≤ R.frames) (hl : W + (maxL + 11) + rm.locals ≤ R.locals)
    {g : JFrame} (hg : g.method = m) (hsize : g.locals.size = c.maxLocals) {argsL rest : List Value} (hlen : ∀ sig, parseMethodDescriptor y.desc = some sig → argsL.length = sig.parameters.length) (hstack : g.stack = argsL.reverse ++ rest) (hW : 2 * g.monitorRoom + (rest.map fun v => v.category).sum ≤ W) (hdg : decode c.code g.pc = .ok (.invokestatic index, 3))
    (ha : argsL.toArray = as') (e0 : T.heap = h) (hc : cells + rm.cells ≤ R.cells) (hs : slots + rm.slots ≤ R.slots)
    (k : ∀ (v : Option Value) (T' : State) (L' : List Loc), Stand p l e R s m args below meth c T' (locs ++ L') (cells + rm.cells) (slots + rm.slots) → Q' v T'.heap L' → OGo p e below s Q kc ks (T'.setTop { g with pc := g.pc + 3, stack := v.toList ++ rest })) : OGo p e below s Q kc ks (T.setTop g) := by
  obtain ⟨v, _, ⟨T', L', k', n'⟩, -, X', ⟨Lc, hQ, l', y', z'⟩, st⟩ := Jvm.LawKit.callS X hx hown (mvT hZ wl) (mvT hZ wst) (mvT hZ wi) (mvT hZ wc) hy (backOf (W := W) hM hZ wc wi hf hl) hg hsize hlen hstack hW hdg (fun _ _ => ⟨ha, e0, hc, hs⟩)
  dsimp only [Pt.U, Pt.locs, Pt.cells, Pt.slots] at X' l' y' z' st hQ
  subst l' y' z'
  exact OGo.step st (k v T' Lc X' hQ)
theorem OGo.callV (X : Stand p l e R s m args below meth c T locs cells slots) (hx : p.tables.exec = Jvm.exec) (hZ : Z.Warmed39 s.vm) {own C : String} {index : Nat} {y z : MethodName} {bytes : ByteArray} {maxL : Nat} {ret : Option FieldType} (hown : s.vm.findClass own = some m.cls)
    (wl : (Jvm.Cond.methodLink own index y).before a0 Z = true) (wd : (Jvm.Cond.declares y).before a0 Z = true) (hnf : NotFace s y) (wsel : (Jvm.Cond.selects C y z).before a0 Z = true) (win : (Jvm.Cond.instanceMethod z).before a0 Z = true) (wi : (Jvm.Cond.initialized z.cls).before a0 Z = true) (wc : (Jvm.Cond.code z bytes maxL ret).before a0 Z = true) (hy : y.cls ≠ "java/lang/invoke/MethodHandle" ∧ y.cls ≠ "java/lang/invoke/VarHandle")
    {rm : Room} {as' : Array Value} {Q' : Option Value → Heap → List Loc → Prop} (hM : OCtr l Z z bytes maxL ret [] rm as' h Q') {W : Nat} (hf : rm.frames + 1 ≤ R.frames) (hl : W + (maxL + 11) + rm.locals ≤ R.locals) {b : Addr} (E : Exa Z h b C)
    {g : JFrame} (hg : g.method = m) (hsize : g.locals.size = c.maxLocals) {argsL rest : List Value} (hlen : ∀ sig, parseMethodDescriptor y.desc = some sig → argsL.length = sig.parameters.length) (hstack : g.stack = argsL.reverse ++ .ref b :: rest) (hW : 2 * g.monitorRoom + (rest.map fun v => v.category).sum ≤ W) (hdg : decode c.code g.pc = .ok (.invokevirtual index, 3))
    (ha : (.ref b :: argsL).toArray = as') (e0 : T.heap = h) (hc : cells + rm.cells ≤ R.cells) (hs : slots + rm.slots ≤ R.slots)
    (k : ∀ (v : Option Value) (T' : State) (L' : List Loc), Stand p l e R s m args below meth c T' (locs ++ L') (cells + rm.cells) (slots + rm.slots) → Q' v T'.heap L' → OGo p e below s Q kc ks (T'.setTop { g with pc := g.pc + 3, stack := v.toList ++ rest })) : OGo p e below s Q kc ks (T.setTop g) := by
  obtain ⟨cq, kq, q1, q2, q3⟩ := isOf hZ e0 E
  obtain ⟨v, _, ⟨T', L', k', n'⟩, -, X', ⟨Lc, hQ, l', y', z'⟩, st⟩ := X.virtualBack hx hown (mvT hZ wl) (mvT hZ wd) hnf (mvT hZ wsel) (mvT hZ win) hy (backOf (W := W) hM hZ wc wi hf hl) q1 q3 hg hsize (Steps.refl _) hlen hstack hW hdg (fun _ _ => ⟨ha, e0, hc, hs⟩)
  dsimp only [Pt.U, Pt.locs, Pt.cells, Pt.slots] at X' l' y' z' st hQ
  subst l' y' z'
  exact OGo.step (fun t q => st.trans q) (k v T' Lc X' hQ)
theorem OGo.callC (X : Stand p l e R s m args below meth c T locs cells slots) (hx : p.tables.exec = Jvm.exec) (hZ : Z.Warmed39 s.vm) {own : String} {index : Nat} {y : MethodName} {bytes : ByteArray} {maxL : Nat} (hy1 : y.name = "<init>") (hown : s.vm.findClass own = some m.cls)
    (wl : (Jvm.Cond.methodLink own index y).before a0 Z = true) (win : (Jvm.Cond.instanceMethod y).before a0 Z = true) (wi : (Jvm.Cond.initialized y.cls).before a0 Z = true) (wc : (Jvm.Cond.code y bytes maxL none).before a0 Z = true) (hy : y.cls ≠ "java/lang/invoke/MethodHandle" ∧ y.cls ≠ "java/lang/invoke/VarHandle")
    {rm : Room} {as' : Array Value} {Q' : Option Value → Heap → List Loc → Prop} (hM : OCtr l Z y bytes maxL none [] rm as' h Q') {W : Nat} (hf : rm.frames + 1 ≤ R.frames) (hl : W + (maxL + 11) + rm.locals ≤ R.locals) {b : Addr}
    {g : JFrame} (hg : g.method = m) (hsize : g.locals.size = c.maxLocals) {argsL rest : List Value} (hlen : ∀ sig, parseMethodDescriptor y.desc = some sig → argsL.length = sig.parameters.length) (hstack : g.stack = argsL.reverse ++ .ref b :: rest) (hW : 2 * g.monitorRoom + (rest.map fun v => v.category).sum ≤ W) (hdg : decode c.code g.pc = .ok (.invokespecial index, 3))
    (ha : (.ref b :: argsL).toArray = as') (e0 : T.heap = h) (hc : cells + rm.cells ≤ R.cells) (hs : slots + rm.slots ≤ R.slots)
    (k : ∀ (v : Option Value) (T' : State) (L' : List Loc), Stand p l e R s m args below meth c T' (locs ++ L') (cells + rm.cells) (slots + rm.slots) → Q' v T'.heap L' → OGo p e below s Q kc ks (T'.setTop { g with pc := g.pc + 3, stack := v.toList ++ rest })) : OGo p e below s Q kc ks (T.setTop g) := by
  obtain ⟨v, _, ⟨T', L', k', n'⟩, -, X', ⟨Lc, hQ, l', y', z'⟩, st⟩ := X.specialBack hx hy1 hown (mvT hZ wl) (mvT hZ win) (mvT hZ wc) hy (backOf (W := W) hM hZ wc wi hf hl) hg hsize (Steps.refl _) hlen hstack hW hdg (fun _ _ => ⟨ha, e0, hc, hs⟩)
  dsimp only [Pt.U, Pt.locs, Pt.cells, Pt.slots] at X' l' y' z' st hQ
  subst l' y' z'
  exact OGo.step (fun t q => st.trans q) (k v T' Lc X' hQ)
theorem own_wd (hw : ∀ d ∈ tables_1, d.before a0 Z = true) (i : Nat) {d : Jvm.Cond} (q : tables_1[i]? = some d) : d.before a0 Z = true := hw _ (List.mem_of_getElem? q)
theorem own_narc (x : Int32) : nar .char (x.toUInt32.toUInt16.toUInt32.toInt32) = x.toUInt32.toUInt16.toUInt32.toInt32 := by
  show x.toUInt32.toUInt16.toUInt32.toInt32.toUInt32.toUInt16.toUInt32.toInt32 = _
  simp only [UInt32.toUInt32_toInt32, UInt16.toUInt16_toUInt32]
theorem own_obj {a : Addr} {C : String} (F : Exa Z h a C) : ∃ cell : Cell, h[a]? = some cell ∧ cell.vm.isStatics = false := by
  obtain ⟨cell, _, h1, -, -, h4, -⟩ := F; exact ⟨cell, h1, h4⟩
theorem own_stakeep {h' : Heap} {ws : List Addr} {C n d : String} {v : Value} (F : Sta Z h C n d v) (K : Keep h h' ws) (q : ∀ x ∈ ws, ∃ cell : Cell, h[x]? = some cell ∧ cell.vm.isStatics = false) : Sta Z h' C n d v := by
  obtain ⟨cf, i, k, f, st, cell, h1, h2, h3, h4, h5, h6, h7⟩ := F
  refine ⟨cf, i, k, f, st, cell, h1, h2, h3, h4, K.2.1 _ _ h5 fun hm => ?_, h6, h7⟩
  obtain ⟨c', g1, g2⟩ := q _ hm
  cases g1.symm.trans h5
  rw [h6] at g2; cases g2
end OwnKit
/-- a byte[] with these bytes -/
def OBs (Z : State) (h : Heap) (t : Addr) (bs : List Int32) : Prop := ∃ k, Arv Z h t k .byte (Int32.ofNat bs.length) (bs.map Value.int) (.int (0 : Int32))
theorem OBs.lt {Z : State} {h : Heap} {t : Addr} {b : List Int32} (F : OBs Z h t b) : t < h.size := by obtain ⟨k, V⟩ := F; exact V.lt
theorem OBs.ext {Z : State} {h h' : Heap} {t : Addr} {b : List Int32} (F : OBs Z h t b) (E : Ext h h') : OBs Z h' t b := by obtain ⟨k, V⟩ := F; exact ⟨k, V.ext E⟩
theorem OBs.other {Z : State} {h h' : Heap} {t a : Addr} {b : List Int32} {sl : Nat} {v : Value} (F : OBs Z h t b) (W : Wr h h' a sl v) (q : t ≠ a) : OBs Z h' t b := by obtain ⟨k, V⟩ := F; exact ⟨k, V.other W q⟩
theorem OBs.keep {Z : State} {h h' : Heap} {t : Addr} {b : List Int32} {ws : List Addr} (F : OBs Z h t b) (K : Keep h h' ws) (n : t ∉ ws) : OBs Z h' t b := by obtain ⟨k, V⟩ := F; exact ⟨k, V.keep K n⟩
theorem OBs.set {Z : State} {h h' : Heap} {t : Addr} {bs : List Int32} {j v : Int32} (F : OBs Z h t bs) (W : Wr h h' t j.toNatClampNeg (.int v)) (hv : fits .byte (.int v) = true) (i : Nat) (hi : j.toNatClampNeg = i) (hj : i < bs.length) : OBs Z h' t (bs.set i v) := by
  obtain ⟨k, cl, A, q1, S, q3, Hh, G⟩ := F
  have V := Arv.set A q1 S q3 Hh G hv W i hi (by simpa using hj)
  refine ⟨k, ?_⟩
  rw [List.length_set, List.map_set]; exact V
theorem own_getv (xs : List Int32) (i : Nat) : (xs.map Value.int).getD i (.int 0) = .int (xs.getD i 0) := by
  simp only [List.getD_eq_getElem?_getD, List.getElem?_map]
  cases xs[i]? <;> rfl
def own_v0 (q : Int64) : Int32 := nar .byte ((((q.toUInt64 >>> ((56 : Int32) &&& 0x3f).toInt64.toUInt64).toInt64).toInt32).toInt8.toInt32)
def own_v1 (q : Int64) : Int32 := nar .byte ((((q.toUInt64 >>> ((48 : Int32) &&& 0x3f).toInt64.toUInt64).toInt64).toInt32).toInt8.toInt32)
def own_v2 (q : Int64) : Int32 := nar .byte ((((q.toUInt64 >>> ((40 : Int32) &&& 0x3f).toInt64.toUInt64).toInt64).toInt32).toInt8.toInt32)
def own_v3 (q : Int64) : Int32 := nar .byte ((((q.toUInt64 >>> ((32 : Int32) &&& 0x3f).toInt64.toUInt64).toInt64).toInt32).toInt8.toInt32)
def own_v4 (q : Int64) : Int32 := nar .byte ((((q.toUInt64 >>> ((24 : Int32) &&& 0x3f).toInt64.toUInt64).toInt64).toInt32).toInt8.toInt32)
def own_v5 (q : Int64) : Int32 := nar .byte ((((q.toUInt64 >>> ((16 : Int32) &&& 0x3f).toInt64.toUInt64).toInt64).toInt32).toInt8.toInt32)
def own_v6 (q : Int64) : Int32 := nar .byte ((((q.toUInt64 >>> ((8 : Int32) &&& 0x3f).toInt64.toUInt64).toInt64).toInt32).toInt8.toInt32)
def own_v7 (q : Int64) : Int32 := nar .byte ((q.toInt32).toInt8.toInt32)
def own_w0 (p : Int32) : Int32 := nar .byte (((p.toUInt32 >>> ((24 : Int32) &&& 31).toUInt32).toInt32).toInt8.toInt32)
def own_w1 (p : Int32) : Int32 := nar .byte (((p.toUInt32 >>> ((16 : Int32) &&& 31).toUInt32).toInt32).toInt8.toInt32)
def own_w2 (p : Int32) : Int32 := nar .byte (((p.toUInt32 >>> ((8 : Int32) &&& 31).toUInt32).toInt32).toInt8.toInt32)
def own_w3 (p : Int32) : Int32 := nar .byte (p.toInt8.toInt32)
theorem own_cap {xs : List Int32} (h : xs.length = 4 ∨ xs.length = 16) : (Int32.ofNat xs.length).toNatClampNeg ≤ 16 := by rcases h with h | h <;> rw [h] <;> decide
theorem own_lt16 {xs : List Int32} {n : Nat} (h : xs.length = n) {j : Int32} (a : ¬ j < 0) (b : j < Int32.ofNat n) : ¬ j < 0 ∧ j < Int32.ofNat xs.length := ⟨a, by rw [h]; exact b⟩
/-! body 11: com/example/veiled_alerts/veiledalerts/model/NetworkContainingPinLaw.put8:([BIJ)V -/
theorem d11_0 : decode method_3_code 0 = .ok (.aload_n 0, 1) := by decide +kernel
theorem d11_1 : decode method_3_code 1 = .ok (.iload_n 1, 1) := by decide +kernel
theorem d11_2 : decode method_3_code 2 = .ok (.lload_n 2, 1) := by decide +kernel
theorem d11_3 : decode method_3_code 3 = .ok (.bipush 56, 2) := by decide +kernel
theorem d11_5 : decode method_3_code 5 = .ok (.lushr, 1) := by decide +kernel
theorem d11_6 : decode method_3_code 6 = .ok (.l2i, 1) := by decide +kernel
theorem d11_7 : decode method_3_code 7 = .ok (.i2b, 1) := by decide +kernel
theorem d11_8 : decode method_3_code 8 = .ok (.bastore, 1) := by decide +kernel
theorem d11_9 : decode method_3_code 9 = .ok (.aload_n 0, 1) := by decide +kernel
theorem d11_10 : decode method_3_code 10 = .ok (.iload_n 1, 1) := by decide +kernel
theorem d11_11 : decode method_3_code 11 = .ok (.iconst 1, 1) := by decide +kernel
theorem d11_12 : decode method_3_code 12 = .ok (.iadd, 1) := by decide +kernel
theorem d11_13 : decode method_3_code 13 = .ok (.lload_n 2, 1) := by decide +kernel
theorem d11_14 : decode method_3_code 14 = .ok (.bipush 48, 2) := by decide +kernel
theorem d11_16 : decode method_3_code 16 = .ok (.lushr, 1) := by decide +kernel
theorem d11_17 : decode method_3_code 17 = .ok (.l2i, 1) := by decide +kernel
theorem d11_18 : decode method_3_code 18 = .ok (.i2b, 1) := by decide +kernel
theorem d11_19 : decode method_3_code 19 = .ok (.bastore, 1) := by decide +kernel
theorem d11_20 : decode method_3_code 20 = .ok (.aload_n 0, 1) := by decide +kernel
theorem d11_21 : decode method_3_code 21 = .ok (.iload_n 1, 1) := by decide +kernel
theorem d11_22 : decode method_3_code 22 = .ok (.iconst 2, 1) := by decide +kernel
theorem d11_23 : decode method_3_code 23 = .ok (.iadd, 1) := by decide +kernel
theorem d11_24 : decode method_3_code 24 = .ok (.lload_n 2, 1) := by decide +kernel
theorem d11_25 : decode method_3_code 25 = .ok (.bipush 40, 2) := by decide +kernel
theorem d11_27 : decode method_3_code 27 = .ok (.lushr, 1) := by decide +kernel
theorem d11_28 : decode method_3_code 28 = .ok (.l2i, 1) := by decide +kernel
theorem d11_29 : decode method_3_code 29 = .ok (.i2b, 1) := by decide +kernel
theorem d11_30 : decode method_3_code 30 = .ok (.bastore, 1) := by decide +kernel
theorem d11_31 : decode method_3_code 31 = .ok (.aload_n 0, 1) := by decide +kernel
theorem d11_32 : decode method_3_code 32 = .ok (.iload_n 1, 1) := by decide +kernel
theorem d11_33 : decode method_3_code 33 = .ok (.iconst 3, 1) := by decide +kernel
theorem d11_34 : decode method_3_code 34 = .ok (.iadd, 1) := by decide +kernel
theorem d11_35 : decode method_3_code 35 = .ok (.lload_n 2, 1) := by decide +kernel
theorem d11_36 : decode method_3_code 36 = .ok (.bipush 32, 2) := by decide +kernel
theorem d11_38 : decode method_3_code 38 = .ok (.lushr, 1) := by decide +kernel
theorem d11_39 : decode method_3_code 39 = .ok (.l2i, 1) := by decide +kernel
theorem d11_40 : decode method_3_code 40 = .ok (.i2b, 1) := by decide +kernel
theorem d11_41 : decode method_3_code 41 = .ok (.bastore, 1) := by decide +kernel
theorem d11_42 : decode method_3_code 42 = .ok (.aload_n 0, 1) := by decide +kernel
theorem d11_43 : decode method_3_code 43 = .ok (.iload_n 1, 1) := by decide +kernel
theorem d11_44 : decode method_3_code 44 = .ok (.iconst 4, 1) := by decide +kernel
theorem d11_45 : decode method_3_code 45 = .ok (.iadd, 1) := by decide +kernel
theorem d11_46 : decode method_3_code 46 = .ok (.lload_n 2, 1) := by decide +kernel
theorem d11_47 : decode method_3_code 47 = .ok (.bipush 24, 2) := by decide +kernel
theorem d11_49 : decode method_3_code 49 = .ok (.lushr, 1) := by decide +kernel
theorem d11_50 : decode method_3_code 50 = .ok (.l2i, 1) := by decide +kernel
theorem d11_51 : decode method_3_code 51 = .ok (.i2b, 1) := by decide +kernel
theorem d11_52 : decode method_3_code 52 = .ok (.bastore, 1) := by decide +kernel
theorem d11_53 : decode method_3_code 53 = .ok (.aload_n 0, 1) := by decide +kernel
theorem d11_54 : decode method_3_code 54 = .ok (.iload_n 1, 1) := by decide +kernel
theorem d11_55 : decode method_3_code 55 = .ok (.iconst 5, 1) := by decide +kernel
theorem d11_56 : decode method_3_code 56 = .ok (.iadd, 1) := by decide +kernel
theorem d11_57 : decode method_3_code 57 = .ok (.lload_n 2, 1) := by decide +kernel
theorem d11_58 : decode method_3_code 58 = .ok (.bipush 16, 2) := by decide +kernel
theorem d11_60 : decode method_3_code 60 = .ok (.lushr, 1) := by decide +kernel
theorem d11_61 : decode method_3_code 61 = .ok (.l2i, 1) := by decide +kernel
theorem d11_62 : decode method_3_code 62 = .ok (.i2b, 1) := by decide +kernel
theorem d11_63 : decode method_3_code 63 = .ok (.bastore, 1) := by decide +kernel
theorem d11_64 : decode method_3_code 64 = .ok (.aload_n 0, 1) := by decide +kernel
theorem d11_65 : decode method_3_code 65 = .ok (.iload_n 1, 1) := by decide +kernel
theorem d11_66 : decode method_3_code 66 = .ok (.bipush 6, 2) := by decide +kernel
theorem d11_68 : decode method_3_code 68 = .ok (.iadd, 1) := by decide +kernel
theorem d11_69 : decode method_3_code 69 = .ok (.lload_n 2, 1) := by decide +kernel
theorem d11_70 : decode method_3_code 70 = .ok (.bipush 8, 2) := by decide +kernel
theorem d11_72 : decode method_3_code 72 = .ok (.lushr, 1) := by decide +kernel
theorem d11_73 : decode method_3_code 73 = .ok (.l2i, 1) := by decide +kernel
theorem d11_74 : decode method_3_code 74 = .ok (.i2b, 1) := by decide +kernel
theorem d11_75 : decode method_3_code 75 = .ok (.bastore, 1) := by decide +kernel
theorem d11_76 : decode method_3_code 76 = .ok (.aload_n 0, 1) := by decide +kernel
theorem d11_77 : decode method_3_code 77 = .ok (.iload_n 1, 1) := by decide +kernel
theorem d11_78 : decode method_3_code 78 = .ok (.bipush 7, 2) := by decide +kernel
theorem d11_80 : decode method_3_code 80 = .ok (.iadd, 1) := by decide +kernel
theorem d11_81 : decode method_3_code 81 = .ok (.lload_n 2, 1) := by decide +kernel
theorem d11_82 : decode method_3_code 82 = .ok (.l2i, 1) := by decide +kernel
theorem d11_83 : decode method_3_code 83 = .ok (.i2b, 1) := by decide +kernel
theorem d11_84 : decode method_3_code 84 = .ok (.bastore, 1) := by decide +kernel
theorem d11_85 : decode method_3_code 85 = .ok (.return_, 1) := by decide +kernel
theorem pn_11 : plainName "com/example/veiled_alerts/veiledalerts/model/NetworkContainingPinLaw" = true := by first | (simp [plainName, overriddenIn]; done) | decide +kernel
theorem ef_11_0 (m : MethodId) (x0 : Addr) (x2 : Int64) : entryFrame m #[(.ref x0), (.int (0 : Int32)), (.long x2)] 4 = mkF m 0 #[.val (.ref x0), .val (.int (0 : Int32)), .val (.long x2), .second] [] := by first | (simp [entryFrame, mkF, argsToLocals, Value.category]; done) | rfl
def Q11_0 (Z : State) (a0 : Addr) (q2 : Int64) (xs : List Int32) (h0 : Heap) (n0 : Nat) (v : Option Value) (h : Heap) (L : List Loc) : Prop := v = none ∧ Fr n0 L ∧ Keep h0 h [a0] ∧ Exa Z h a0 "[B" ∧ OBs Z h a0 ((((((((xs.set 0 (own_v0 q2)).set 1 (own_v1 q2)).set 2 (own_v2 q2)).set 3 (own_v3 q2)).set 4 (own_v4 q2)).set 5 (own_v5 q2)).set 6 (own_v6 q2)).set 7 (own_v7 q2))
set_option maxRecDepth 65536 in
set_option maxHeartbeats 40000000 in
theorem rm11_0 (l : Launch) (Z : State) (az : Array Value) (hw : ∀ d ∈ tables_1, d.before az Z = true) (ws : List Jvm.Cond) (a0 : Addr) (q2 : Int64) (xs : List Int32) (h0 : Heap) (n0 : Nat) (Z0 : n0 ≤ h0.size) (E_a0 : Exa Z h0 a0 "[B") (O_a0 : OBs Z h0 a0 xs) (hlen : xs.length = 16) (gn_a0 : n0 ≤ a0) :
    OCtr l Z (⟨"com/example/veiled_alerts/veiledalerts/model/NetworkContainingPinLaw", "put8", "([BIJ)V"⟩ : MethodName) method_3_code 4 none ws ({ frames := 0, cells := 0, slots := 0, locals := 0 } : Room) #[(.ref a0), (.int (0 : Int32)), (.long q2)] h0 (Q11_0 Z a0 q2 xs h0 n0) := by
  refine OCtr.of (plainFor_of_name pn_11) ?_
  intro p e s m below meth c s₁ X0 hx hlk hZ hown0 hnm hby hml0 hret e0
  have hown : s.vm.findClass "com/example/veiled_alerts/veiledalerts/model/NetworkContainingPinLaw" = some m.cls := hown0
  have hml : c.maxLocals = 4 := hml0
  have N0 := Fr.nil n0
  refine OGo.step (fun t k => castTop (ef_11_0 m a0 q2) k) ?_
  refine OGo.step (F' := s₁.setTop (mkF m 8 #[.val (.ref a0), .val (.int (0 : Int32)), .val (.long q2), .second] [(.int ((((q2.toUInt64 >>> ((56 : Int32) &&& 0x3f).toInt64.toUInt64).toInt64).toInt32).toInt8.toInt32)), (.int (0 : Int32)), (.ref a0)])) (fun t kt => ?_) ?_
  · show Steps p.tables e below (s₁.setTop (mkF m 0 #[.val (.ref a0), .val (.int (0 : Int32)), .val (.long q2), .second] [])) t
    refine XS.aloadN X0.here hx rfl (hb hby d11_0) rfl rfl ?_
    show Steps p.tables e below (s₁.setTop (mkF m 1 #[.val (.ref a0), .val (.int (0 : Int32)), .val (.long q2), .second] [(.ref a0)])) t
    refine XS.iloadN X0.here hx rfl (hb hby d11_1) rfl ?_
    show Steps p.tables e below (s₁.setTop (mkF m 2 #[.val (.ref a0), .val (.int (0 : Int32)), .val (.long q2), .second] [(.int (0 : Int32)), (.ref a0)])) t
    refine XS.lloadN X0.here hx rfl (hb hby d11_2) rfl ?_
    show Steps p.tables e below (s₁.setTop (mkF m 3 #[.val (.ref a0), .val (.int (0 : Int32)), .val (.long q2), .second] [(.long q2), (.int (0 : Int32)), (.ref a0)])) t
    refine XS.bipush X0.here hx rfl (hb hby d11_3) ?_
    show Steps p.tables e below (s₁.setTop (mkF m 5 #[.val (.ref a0), .val (.int (0 : Int32)), .val (.long q2), .second] [(.int (56 : Int32)), (.long q2), (.int (0 : Int32)), (.ref a0)])) t
    refine XS.lushr X0.here hx rfl (hb hby d11_5) rfl ?_
    show Steps p.tables e below (s₁.setTop (mkF m 6 #[.val (.ref a0), .val (.int (0 : Int32)), .val (.long q2), .second] [(.long ((q2.toUInt64 >>> ((56 : Int32) &&& 0x3f).toInt64.toUInt64).toInt64)), (.int (0 : Int32)), (.ref a0)])) t
    refine XS.l2i X0.here hx rfl (hb hby d11_6) rfl ?_
    show Steps p.tables e below (s₁.setTop (mkF m 7 #[.val (.ref a0), .val (.int (0 : Int32)), .val (.long q2), .second] [(.int (((q2.toUInt64 >>> ((56 : Int32) &&& 0x3f).toInt64.toUInt64).toInt64).toInt32)), (.int (0 : Int32)), (.ref a0)])) t
    refine XS.i2b X0.here hx rfl (hb hby d11_7) rfl ?_
    exact kt
  obtain ⟨kk1, cl1, Ar1, qz1, S1, N1a, H1, G1⟩ := id (O_a0)
  have hin1 : ¬ ((0 : Int32) < 0 ∨ cl1.slots.size ≤ ((0 : Int32)).toNatClampNeg) := inb_of S1 (own_lt16 (n := 16) (by simp only [List.length_set, hlen]) (by decide) (by decide))
  obtain ⟨T1, h1, X1, e1, W1, st1⟩ := stB X0 hx hZ e0 Ar1 (j := (0 : Int32)) hin1 (g := (mkF m 8 #[.val (.ref a0), .val (.int (0 : Int32)), .val (.long q2), .second] [(.int ((((q2.toUInt64 >>> ((56 : Int32) &&& 0x3f).toInt64.toUInt64).toInt64).toInt32).toInt8.toInt32)), (.int (0 : Int32)), (.ref a0)])) rfl rfl (hb hby d11_8)
  have O1 : OBs Z h1 a0 (xs.set 0 (own_v0 q2)) := OBs.set O_a0 W1 (fits_nar_byte _) 0 rfl (by rw [show xs.length = 16 from (by simp only [List.length_set, hlen])]; decide)
  have KC1 : Keep h0 h1 [a0] := (Keep.refl h0 [a0]).wr W1 (Or.inl (List.mem_of_getElem? (i := 0) rfl))
  have N1 := Fr.snoc X1 N0 gn_a0
  refine OGo.step st1 ?_
  show OGo _ _ _ _ _ _ _ (T1.setTop (mkF m 9 #[.val (.ref a0), .val (.int (0 : Int32)), .val (.long q2), .second] []))
  refine OGo.step (F' := T1.setTop (mkF m 19 #[.val (.ref a0), .val (.int (0 : Int32)), .val (.long q2), .second] [(.int ((((q2.toUInt64 >>> ((48 : Int32) &&& 0x3f).toInt64.toUInt64).toInt64).toInt32).toInt8.toInt32)), (.int (1 : Int32)), (.ref a0)])) (fun t kt => ?_) ?_
  · show Steps p.tables e below (T1.setTop (mkF m 9 #[.val (.ref a0), .val (.int (0 : Int32)), .val (.long q2), .second] [])) t
    refine XS.aloadN X1.here hx rfl (hb hby d11_9) rfl rfl ?_
    show Steps p.tables e below (T1.setTop (mkF m 10 #[.val (.ref a0), .val (.int (0 : Int32)), .val (.long q2), .second] [(.ref a0)])) t
    refine XS.iloadN X1.here hx rfl (hb hby d11_10) rfl ?_
    show Steps p.tables e below (T1.setTop (mkF m 11 #[.val (.ref a0), .val (.int (0 : Int32)), .val (.long q2), .second] [(.int (0 : Int32)), (.ref a0)])) t
    refine XS.iconst X1.here hx rfl (hb hby d11_11) ?_
    show Steps p.tables e below (T1.setTop (mkF m 12 #[.val (.ref a0), .val (.int (0 : Int32)), .val (.long q2), .second] [(.int (1 : Int32)), (.int (0 : Int32)), (.ref a0)])) t
    refine XS.iadd X1.here hx rfl (hb hby d11_12) rfl ?_
    show Steps p.tables e below (T1.setTop (mkF m 13 #[.val (.ref a0), .val (.int (0 : Int32)), .val (.long q2), .second] [(.int (1 : Int32)), (.ref a0)])) t
    refine XS.lloadN X1.here hx rfl (hb hby d11_13) rfl ?_
    show Steps p.tables e below (T1.setTop (mkF m 14 #[.val (.ref a0), .val (.int (0 : Int32)), .val (.long q2), .second] [(.long q2), (.int (1 : Int32)), (.ref a0)])) t
    refine XS.bipush X1.here hx rfl (hb hby d11_14) ?_
    show Steps p.tables e below (T1.setTop (mkF m 16 #[.val (.ref a0), .val (.int (0 : Int32)), .val (.long q2), .second] [(.int (48 : Int32)), (.long q2), (.int (1 : Int32)), (.ref a0)])) t
    refine XS.lushr X1.here hx rfl (hb hby d11_16) rfl ?_
    show Steps p.tables e below (T1.setTop (mkF m 17 #[.val (.ref a0), .val (.int (0 : Int32)), .val (.long q2), .second] [(.long ((q2.toUInt64 >>> ((48 : Int32) &&& 0x3f).toInt64.toUInt64).toInt64)), (.int (1 : Int32)), (.ref a0)])) t
    refine XS.l2i X1.here hx rfl (hb hby d11_17) rfl ?_
    show Steps p.tables e below (T1.setTop (mkF m 18 #[.val (.ref a0), .val (.int (0 : Int32)), .val (.long q2), .second] [(.int (((q2.toUInt64 >>> ((48 : Int32) &&& 0x3f).toInt64.toUInt64).toInt64).toInt32)), (.int (1 : Int32)), (.ref a0)])) t
    refine XS.i2b X1.here hx rfl (hb hby d11_18) rfl ?_
    exact kt
  obtain ⟨kk2, cl2, Ar2, qz2, S2, N2a, H2, G2⟩ := id (O1)
  have hin2 : ¬ ((1 : Int32) < 0 ∨ cl2.slots.size ≤ ((1 : Int32)).toNatClampNeg) := inb_of S2 (own_lt16 (n := 16) (by simp only [List.length_set, hlen]) (by decide) (by decide))
  obtain ⟨T2, h2, X2, e2, W2, st2⟩ := stB X1 hx hZ e1 Ar2 (j := (1 : Int32)) hin2 (g := (mkF m 19 #[.val (.ref a0), .val (.int (0 : Int32)), .val (.long q2), .second] [(.int ((((q2.toUInt64 >>> ((48 : Int32) &&& 0x3f).toInt64.toUInt64).toInt64).toInt32).toInt8.toInt32)), (.int (1 : Int32)), (.ref a0)])) rfl rfl (hb hby d11_19)
  have O2 : OBs Z h2 a0 ((xs.set 0 (own_v0 q2)).set 1 (own_v1 q2)) := OBs.set O1 W2 (fits_nar_byte _) 1 rfl (by rw [show (xs.set 0 (own_v0 q2)).length = 16 from (by simp only [List.length_set, hlen])]; decide)
  have KC2 : Keep h0 h2 [a0] := KC1.wr W2 (Or.inl (List.mem_of_getElem? (i := 0) rfl))
  have N2 := Fr.snoc X2 N1 gn_a0
  refine OGo.step st2 ?_
  show OGo _ _ _ _ _ _ _ (T2.setTop (mkF m 20 #[.val (.ref a0), .val (.int (0 : Int32)), .val (.long q2), .second] []))
  refine OGo.step (F' := T2.setTop (mkF m 30 #[.val (.ref a0), .val (.int (0 : Int32)), .val (.long q2), .second] [(.int ((((q2.toUInt64 >>> ((40 : Int32) &&& 0x3f).toInt64.toUInt64).toInt64).toInt32).toInt8.toInt32)), (.int (2 : Int32)), (.ref a0)])) (fun t kt => ?_) ?_
  · show Steps p.tables e below (T2.setTop (mkF m 20 #[.val (.ref a0), .val (.int (0 : Int32)), .val (.long q2), .second] [])) t
    refine XS.aloadN X2.here hx rfl (hb hby d11_20) rfl rfl ?_
    show Steps p.tables e below (T2.setTop (mkF m 21 #[.val (.ref a0), .val (.int (0 : Int32)), .val (.long q2), .second] [(.ref a0)])) t
    refine XS.iloadN X2.here hx rfl (hb hby d11_21) rfl ?_
    show Steps p.tables e below (T2.setTop (mkF m 22 #[.val (.ref a0), .val (.int (0 : Int32)), .val (.long q2), .second] [(.int (0 : Int32)), (.ref a0)])) t
    refine XS.iconst X2.here hx rfl (hb hby d11_22) ?_
    show Steps p.tables e below (T2.setTop (mkF m 23 #[.val (.ref a0), .val (.int (0 : Int32)), .val (.long q2), .second] [(.int (2 : Int32)), (.int (0 : Int32)), (.ref a0)])) t
    refine XS.iadd X2.here hx rfl (hb hby d11_23) rfl ?_
    show Steps p.tables e below (T2.setTop (mkF m 24 #[.val (.ref a0), .val (.int (0 : Int32)), .val (.long q2), .second] [(.int (2 : Int32)), (.ref a0)])) t
    refine XS.lloadN X2.here hx rfl (hb hby d11_24) rfl ?_
    show Steps p.tables e below (T2.setTop (mkF m 25 #[.val (.ref a0), .val (.int (0 : Int32)), .val (.long q2), .second] [(.long q2), (.int (2 : Int32)), (.ref a0)])) t
    refine XS.bipush X2.here hx rfl (hb hby d11_25) ?_
    show Steps p.tables e below (T2.setTop (mkF m 27 #[.val (.ref a0), .val (.int (0 : Int32)), .val (.long q2), .second] [(.int (40 : Int32)), (.long q2), (.int (2 : Int32)), (.ref a0)])) t
    refine XS.lushr X2.here hx rfl (hb hby d11_27) rfl ?_
    show Steps p.tables e below (T2.setTop (mkF m 28 #[.val (.ref a0), .val (.int (0 : Int32)), .val (.long q2), .second] [(.long ((q2.toUInt64 >>> ((40 : Int32) &&& 0x3f).toInt64.toUInt64).toInt64)), (.int (2 : Int32)), (.ref a0)])) t
    refine XS.l2i X2.here hx rfl (hb hby d11_28) rfl ?_
    show Steps p.tables e below (T2.setTop (mkF m 29 #[.val (.ref a0), .val (.int (0 : Int32)), .val (.long q2), .second] [(.int (((q2.toUInt64 >>> ((40 : Int32) &&& 0x3f).toInt64.toUInt64).toInt64).toInt32)), (.int (2 : Int32)), (.ref a0)])) t
    refine XS.i2b X2.here hx rfl (hb hby d11_29) rfl ?_
    exact kt
  obtain ⟨kk3, cl3, Ar3, qz3, S3, N3a, H3, G3⟩ := id (O2)
  have hin3 : ¬ ((2 : Int32) < 0 ∨ cl3.slots.size ≤ ((2 : Int32)).toNatClampNeg) := inb_of S3 (own_lt16 (n := 16) (by simp only [List.length_set, hlen]) (by decide) (by decide))
  obtain ⟨T3, h3, X3, e3, W3, st3⟩ := stB X2 hx hZ e2 Ar3 (j := (2 : Int32)) hin3 (g := (mkF m 30 #[.val (.ref a0), .val (.int (0 : Int32)), .val (.long q2), .second] [(.int ((((q2.toUInt64 >>> ((40 : Int32) &&& 0x3f).toInt64.toUInt64).toInt64).toInt32).toInt8.toInt32)), (.int (2 : Int32)), (.ref a0)])) rfl rfl (hb hby d11_30)
  have O3 : OBs Z h3 a0 (((xs.set 0 (own_v0 q2)).set 1 (own_v1 q2)).set 2 (own_v2 q2)) := OBs.set O2 W3 (fits_nar_byte _) 2 rfl (by rw [show ((xs.set 0 (own_v0 q2)).set 1 (own_v1 q2)).length = 16 from (by simp only [List.length_set, hlen])]; decide)
  have KC3 : Keep h0 h3 [a0] := KC2.wr W3 (Or.inl (List.mem_of_getElem? (i := 0) rfl))
  have N3 := Fr.snoc X3 N2 gn_a0
  refine OGo.step st3 ?_
  show OGo _ _ _ _ _ _ _ (T3.setTop (mkF m 31 #[.val (.ref a0), .val (.int (0 : Int32)), .val (.long q2), .second] []))
  refine OGo.step (F' := T3.setTop (mkF m 41 #[.val (.ref a0), .val (.int (0 : Int32)), .val (.long q2), .second] [(.int ((((q2.toUInt64 >>> ((32 : Int32) &&& 0x3f).toInt64.toUInt64).toInt64).toInt32).toInt8.toInt32)), (.int (3 : Int32)), (.ref a0)])) (fun t kt => ?_) ?_
  · show Steps p.tables e below (T3.setTop (mkF m 31 #[.val (.ref a0), .val (.int (0 : Int32)), .val (.long q2), .second] [])) t
    refine XS.aloadN X3.here hx rfl (hb hby d11_31) rfl rfl ?_
    show Steps p.tables e below (T3.setTop (mkF m 32 #[.val (.ref a0), .val (.int (0 : Int32)), .val (.long q2), .second] [(.ref a0)])) t
    refine XS.iloadN X3.here hx rfl (hb hby d11_32) rfl ?_
    show Steps p.tables e below (T3.setTop (mkF m 33 #[.val (.ref a0), .val (.int (0 : Int32)), .val (.long q2), .second] [(.int (0 : Int32)), (.ref a0)])) t
    refine XS.iconst X3.here hx rfl (hb hby d11_33) ?_
    show Steps p.tables e below (T3.setTop (mkF m 34 #[.val (.ref a0), .val (.int (0 : Int32)), .val (.long q2), .second] [(.int (3 : Int32)), (.int (0 : Int32)), (.ref a0)])) t
    refine XS.iadd X3.here hx rfl (hb hby d11_34) rfl ?_
    show Steps p.tables e below (T3.setTop (mkF m 35 #[.val (.ref a0), .val (.int (0 : Int32)), .val (.long q2), .second] [(.int (3 : Int32)), (.ref a0)])) t
    refine XS.lloadN X3.here hx rfl (hb hby d11_35) rfl ?_
    show Steps p.tables e below (T3.setTop (mkF m 36 #[.val (.ref a0), .val (.int (0 : Int32)), .val (.long q2), .second] [(.long q2), (.int (3 : Int32)), (.ref a0)])) t
    refine XS.bipush X3.here hx rfl (hb hby d11_36) ?_
    show Steps p.tables e below (T3.setTop (mkF m 38 #[.val (.ref a0), .val (.int (0 : Int32)), .val (.long q2), .second] [(.int (32 : Int32)), (.long q2), (.int (3 : Int32)), (.ref a0)])) t
    refine XS.lushr X3.here hx rfl (hb hby d11_38) rfl ?_
    show Steps p.tables e below (T3.setTop (mkF m 39 #[.val (.ref a0), .val (.int (0 : Int32)), .val (.long q2), .second] [(.long ((q2.toUInt64 >>> ((32 : Int32) &&& 0x3f).toInt64.toUInt64).toInt64)), (.int (3 : Int32)), (.ref a0)])) t
    refine XS.l2i X3.here hx rfl (hb hby d11_39) rfl ?_
    show Steps p.tables e below (T3.setTop (mkF m 40 #[.val (.ref a0), .val (.int (0 : Int32)), .val (.long q2), .second] [(.int (((q2.toUInt64 >>> ((32 : Int32) &&& 0x3f).toInt64.toUInt64).toInt64).toInt32)), (.int (3 : Int32)), (.ref a0)])) t
    refine XS.i2b X3.here hx rfl (hb hby d11_40) rfl ?_
    exact kt
  obtain ⟨kk4, cl4, Ar4, qz4, S4, N4a, H4, G4⟩ := id (O3)
  have hin4 : ¬ ((3 : Int32) < 0 ∨ cl4.slots.size ≤ ((3 : Int32)).toNatClampNeg) := inb_of S4 (own_lt16 (n := 16) (by simp only [List.length_set, hlen]) (by decide) (by decide))
  obtain ⟨T4, h4, X4, e4, W4, st4⟩ := stB X3 hx hZ e3 Ar4 (j := (3 : Int32)) hin4 (g := (mkF m 41 #[.val (.ref a0), .val (.int (0 : Int32)), .val (.long q2), .second] [(.int ((((q2.toUInt64 >>> ((32 : Int32) &&& 0x3f).toInt64.toUInt64).toInt64).toInt32).toInt8.toInt32)), (.int (3 : Int32)), (.ref a0)])) rfl rfl (hb hby d11_41)
  have O4 : OBs Z h4 a0 ((((xs.set 0 (own_v0 q2)).set 1 (own_v1 q2)).set 2 (own_v2 q2)).set 3 (own_v3 q2)) := OBs.set O3 W4 (fits_nar_byte _) 3 rfl (by rw [show (((xs.set 0 (own_v0 q2)).set 1 (own_v1 q2)).set 2 (own_v2 q2)).length = 16 from (by simp only [List.length_set, hlen])]; decide)
  have KC4 : Keep h0 h4 [a0] := KC3.wr W4 (Or.inl (List.mem_of_getElem? (i := 0) rfl))
  have N4 := Fr.snoc X4 N3 gn_a0
  refine OGo.step st4 ?_
  show OGo _ _ _ _ _ _ _ (T4.setTop (mkF m 42 #[.val (.ref a0), .val (.int (0 : Int32)), .val (.long q2), .second] []))
  refine OGo.step (F' := T4.setTop (mkF m 52 #[.val (.ref a0), .val (.int (0 : Int32)), .val (.long q2), .second] [(.int ((((q2.toUInt64 >>> ((24 : Int32) &&& 0x3f).toInt64.toUInt64).toInt64).toInt32).toInt8.toInt32)), (.int (4 : Int32)), (.ref a0)])) (fun t kt => ?_) ?_
  · show Steps p.tables e below (T4.setTop (mkF m 42 #[.val (.ref a0), .val (.int (0 : Int32)), .val (.long q2), .second] [])) t
    refine XS.aloadN X4.here hx rfl (hb hby d11_42) rfl rfl ?_
    show Steps p.tables e below (T4.setTop (mkF m 43 #[.val (.ref a0), .val (.int (0 : Int32)), .val (.long q2), .second] [(.ref a0)])) t
    refine XS.iloadN X4.here hx rfl (hb hby d11_43) rfl ?_
    show Steps p.tables e below (T4.setTop (mkF m 44 #[.val (.ref a0), .val (.int (0 : Int32)), .val (.long q2), .second] [(.int (0 : Int32)), (.ref a0)])) t
    refine XS.iconst X4.here hx rfl (hb hby d11_44) ?_
    show Steps p.tables e below (T4.setTop (mkF m 45 #[.val (.ref a0), .val (.int (0 : Int32)), .val (.long q2), .second] [(.int (4 : Int32)), (.int (0 : Int32)), (.ref a0)])) t
    refine XS.iadd X4.here hx rfl (hb hby d11_45) rfl ?_
    show Steps p.tables e below (T4.setTop (mkF m 46 #[.val (.ref a0), .val (.int (0 : Int32)), .val (.long q2), .second] [(.int (4 : Int32)), (.ref a0)])) t
    refine XS.lloadN X4.here hx rfl (hb hby d11_46) rfl ?_
    show Steps p.tables e below (T4.setTop (mkF m 47 #[.val (.ref a0), .val (.int (0 : Int32)), .val (.long q2), .second] [(.long q2), (.int (4 : Int32)), (.ref a0)])) t
    refine XS.bipush X4.here hx rfl (hb hby d11_47) ?_
    show Steps p.tables e below (T4.setTop (mkF m 49 #[.val (.ref a0), .val (.int (0 : Int32)), .val (.long q2), .second] [(.int (24 : Int32)), (.long q2), (.int (4 : Int32)), (.ref a0)])) t
    refine XS.lushr X4.here hx rfl (hb hby d11_49) rfl ?_
    show Steps p.tables e below (T4.setTop (mkF m 50 #[.val (.ref a0), .val (.int (0 : Int32)), .val (.long q2), .second] [(.long ((q2.toUInt64 >>> ((24 : Int32) &&& 0x3f).toInt64.toUInt64).toInt64)), (.int (4 : Int32)), (.ref a0)])) t
    refine XS.l2i X4.here hx rfl (hb hby d11_50) rfl ?_
    show Steps p.tables e below (T4.setTop (mkF m 51 #[.val (.ref a0), .val (.int (0 : Int32)), .val (.long q2), .second] [(.int (((q2.toUInt64 >>> ((24 : Int32) &&& 0x3f).toInt64.toUInt64).toInt64).toInt32)), (.int (4 : Int32)), (.ref a0)])) t
    refine XS.i2b X4.here hx rfl (hb hby d11_51) rfl ?_
    exact kt
  obtain ⟨kk5, cl5, Ar5, qz5, S5, N5a, H5, G5⟩ := id (O4)
  have hin5 : ¬ ((4 : Int32) < 0 ∨ cl5.slots.size ≤ ((4 : Int32)).toNatClampNeg) := inb_of S5 (own_lt16 (n := 16) (by simp only [List.length_set, hlen]) (by decide) (by decide))
  obtain ⟨T5, h5, X5, e5, W5, st5⟩ := stB X4 hx hZ e4 Ar5 (j := (4 : Int32)) hin5 (g := (mkF m 52 #[.val (.ref a0), .val (.int (0 : Int32)), .val (.long q2), .second] [(.int ((((q2.toUInt64 >>> ((24 : Int32) &&& 0x3f).toInt64.toUInt64).toInt64).toInt32).toInt8.toInt32)), (.int (4 : Int32)), (.ref a0)])) rfl rfl (hb hby d11_52)
  have O5 : OBs Z h5 a0 (((((xs.set 0 (own_v0 q2)).set 1 (own_v1 q2)).set 2 (own_v2 q2)).set 3 (own_v3 q2)).set 4 (own_v4 q2)) := OBs.set O4 W5 (fits_nar_byte _) 4 rfl (by rw [show ((((xs.set 0 (own_v0 q2)).set 1 (own_v1 q2)).set 2 (own_v2 q2)).set 3 (own_v3 q2)).length = 16 from (by simp only [List.length_set, hlen])]; decide)
  have KC5 : Keep h0 h5 [a0] := KC4.wr W5 (Or.inl (List.mem_of_getElem? (i := 0) rfl))
  have N5 := Fr.snoc X5 N4 gn_a0
  refine OGo.step st5 ?_
  show OGo _ _ _ _ _ _ _ (T5.setTop (mkF m 53 #[.val (.ref a0), .val (.int (0 : Int32)), .val (.long q2), .second] []))
  refine OGo.step (F' := T5.setTop (mkF m 63 #[.val (.ref a0), .val (.int (0 : Int32)), .val (.long q2), .second] [(.int ((((q2.toUInt64 >>> ((16 : Int32) &&& 0x3f).toInt64.toUInt64).toInt64).toInt32).toInt8.toInt32)), (.int (5 : Int32)), (.ref a0)])) (fun t kt => ?_) ?_
  · show Steps p.tables e below (T5.setTop (mkF m 53 #[.val (.ref a0), .val (.int (0 : Int32)), .val (.long q2), .second] [])) t
    refine XS.aloadN X5.here hx rfl (hb hby d11_53) rfl rfl ?_
    show Steps p.tables e below (T5.setTop (mkF m 54 #[.val (.ref a0), .val (.int (0 : Int32)), .val (.long q2), .second] [(.ref a0)])) t
    refine XS.iloadN X5.here hx rfl (hb hby d11_54) rfl ?_
    show Steps p.tables e below (T5.setTop (mkF m 55 #[.val (.ref a0), .val (.int (0 : Int32)), .val (.long q2), .second] [(.int (0 : Int32)), (.ref a0)])) t
    refine XS.iconst X5.here hx rfl (hb hby d11_55) ?_
    show Steps p.tables e below (T5.setTop (mkF m 56 #[.val (.ref a0), .val (.int (0 : Int32)), .val (.long q2), .second] [(.int (5 : Int32)), (.int (0 : Int32)), (.ref a0)])) t
    refine XS.iadd X5.here hx rfl (hb hby d11_56) rfl ?_
    show Steps p.tables e below (T5.setTop (mkF m 57 #[.val (.ref a0), .val (.int (0 : Int32)), .val (.long q2), .second] [(.int (5 : Int32)), (.ref a0)])) t
    refine XS.lloadN X5.here hx rfl (hb hby d11_57) rfl ?_
    show Steps p.tables e below (T5.setTop (mkF m 58 #[.val (.ref a0), .val (.int (0 : Int32)), .val (.long q2), .second] [(.long q2), (.int (5 : Int32)), (.ref a0)])) t
    refine XS.bipush X5.here hx rfl (hb hby d11_58) ?_
    show Steps p.tables e below (T5.setTop (mkF m 60 #[.val (.ref a0), .val (.int (0 : Int32)), .val (.long q2), .second] [(.int (16 : Int32)), (.long q2), (.int (5 : Int32)), (.ref a0)])) t
    refine XS.lushr X5.here hx rfl (hb hby d11_60) rfl ?_
    show Steps p.tables e below (T5.setTop (mkF m 61 #[.val (.ref a0), .val (.int (0 : Int32)), .val (.long q2), .second] [(.long ((q2.toUInt64 >>> ((16 : Int32) &&& 0x3f).toInt64.toUInt64).toInt64)), (.int (5 : Int32)), (.ref a0)])) t
    refine XS.l2i X5.here hx rfl (hb hby d11_61) rfl ?_
    show Steps p.tables e below (T5.setTop (mkF m 62 #[.val (.ref a0), .val (.int (0 : Int32)), .val (.long q2), .second] [(.int (((q2.toUInt64 >>> ((16 : Int32) &&& 0x3f).toInt64.toUInt64).toInt64).toInt32)), (.int (5 : Int32)), (.ref a0)])) t
    refine XS.i2b X5.here hx rfl (hb hby d11_62) rfl ?_
    exact kt
  obtain ⟨kk6, cl6, Ar6, qz6, S6, N6a, H6, G6⟩ := id (O5)
  have hin6 : ¬ ((5 : Int32) < 0 ∨ cl6.slots.size ≤ ((5 : Int32)).toNatClampNeg) := inb_of S6 (own_lt16 (n := 16) (by simp only [List.length_set, hlen]) (by decide) (by decide))
  obtain ⟨T6, h6, X6, e6, W6, st6⟩ := stB X5 hx hZ e5 Ar6 (j := (5 : Int32)) hin6 (g := (mkF m 63 #[.val (.ref a0), .val (.int (0 : Int32)), .val (.long q2), .second] [(.int ((((q2.toUInt64 >>> ((16 : Int32) &&& 0x3f).toInt64.toUInt64).toInt64).toInt32).toInt8.toInt32)), (.int (5 : Int32)), (.ref a0)])) rfl rfl (hb hby d11_63)
  have O6 : OBs Z h6 a0 ((((((xs.set 0 (own_v0 q2)).set 1 (own_v1 q2)).set 2 (own_v2 q2)).set 3 (own_v3 q2)).set 4 (own_v4 q2)).set 5 (own_v5 q2)) := OBs.set O5 W6 (fits_nar_byte _) 5 rfl (by rw [show (((((xs.set 0 (own_v0 q2)).set 1 (own_v1 q2)).set 2 (own_v2 q2)).set 3 (own_v3 q2)).set 4 (own_v4 q2)).length = 16 from (by simp only [List.length_set, hlen])]; decide)
  have KC6 : Keep h0 h6 [a0] := KC5.wr W6 (Or.inl (List.mem_of_getElem? (i := 0) rfl))
  have N6 := Fr.snoc X6 N5 gn_a0
  refine OGo.step st6 ?_
  show OGo _ _ _ _ _ _ _ (T6.setTop (mkF m 64 #[.val (.ref a0), .val (.int (0 : Int32)), .val (.long q2), .second] []))
  refine OGo.step (F' := T6.setTop (mkF m 75 #[.val (.ref a0), .val (.int (0 : Int32)), .val (.long q2), .second] [(.int ((((q2.toUInt64 >>> ((8 : Int32) &&& 0x3f).toInt64.toUInt64).toInt64).toInt32).toInt8.toInt32)), (.int (6 : Int32)), (.ref a0)])) (fun t kt => ?_) ?_
  · show Steps p.tables e below (T6.setTop (mkF m 64 #[.val (.ref a0), .val (.int (0 : Int32)), .val (.long q2), .second] [])) t
    refine XS.aloadN X6.here hx rfl (hb hby d11_64) rfl rfl ?_
    show Steps p.tables e below (T6.setTop (mkF m 65 #[.val (.ref a0), .val (.int (0 : Int32)), .val (.long q2), .second] [(.ref a0)])) t
    refine XS.iloadN X6.here hx rfl (hb hby d11_65) rfl ?_
    show Steps p.tables e below (T6.setTop (mkF m 66 #[.val (.ref a0), .val (.int (0 : Int32)), .val (.long q2), .second] [(.int (0 : Int32)), (.ref a0)])) t
    refine XS.bipush X6.here hx rfl (hb hby d11_66) ?_
    show Steps p.tables e below (T6.setTop (mkF m 68 #[.val (.ref a0), .val (.int (0 : Int32)), .val (.long q2), .second] [(.int (6 : Int32)), (.int (0 : Int32)), (.ref a0)])) t
    refine XS.iadd X6.here hx rfl (hb hby d11_68) rfl ?_
    show Steps p.tables e below (T6.setTop (mkF m 69 #[.val (.ref a0), .val (.int (0 : Int32)), .val (.long q2), .second] [(.int (6 : Int32)), (.ref a0)])) t
    refine XS.lloadN X6.here hx rfl (hb hby d11_69) rfl ?_
    show Steps p.tables e below (T6.setTop (mkF m 70 #[.val (.ref a0), .val (.int (0 : Int32)), .val (.long q2), .second] [(.long q2), (.int (6 : Int32)), (.ref a0)])) t
    refine XS.bipush X6.here hx rfl (hb hby d11_70) ?_
    show Steps p.tables e below (T6.setTop (mkF m 72 #[.val (.ref a0), .val (.int (0 : Int32)), .val (.long q2), .second] [(.int (8 : Int32)), (.long q2), (.int (6 : Int32)), (.ref a0)])) t
    refine XS.lushr X6.here hx rfl (hb hby d11_72) rfl ?_
    show Steps p.tables e below (T6.setTop (mkF m 73 #[.val (.ref a0), .val (.int (0 : Int32)), .val (.long q2), .second] [(.long ((q2.toUInt64 >>> ((8 : Int32) &&& 0x3f).toInt64.toUInt64).toInt64)), (.int (6 : Int32)), (.ref a0)])) t
    refine XS.l2i X6.here hx rfl (hb hby d11_73) rfl ?_
    show Steps p.tables e below (T6.setTop (mkF m 74 #[.val (.ref a0), .val (.int (0 : Int32)), .val (.long q2), .second] [(.int (((q2.toUInt64 >>> ((8 : Int32) &&& 0x3f).toInt64.toUInt64).toInt64).toInt32)), (.int (6 : Int32)), (.ref a0)])) t
    refine XS.i2b X6.here hx rfl (hb hby d11_74) rfl ?_
    exact kt
  obtain ⟨kk7, cl7, Ar7, qz7, S7, N7a, H7, G7⟩ := id (O6)
  have hin7 : ¬ ((6 : Int32) < 0 ∨ cl7.slots.size ≤ ((6 : Int32)).toNatClampNeg) := inb_of S7 (own_lt16 (n := 16) (by simp only [List.length_set, hlen]) (by decide) (by decide))
  obtain ⟨T7, h7, X7, e7, W7, st7⟩ := stB X6 hx hZ e6 Ar7 (j := (6 : Int32)) hin7 (g := (mkF m 75 #[.val (.ref a0), .val (.int (0 : Int32)), .val (.long q2), .second] [(.int ((((q2.toUInt64 >>> ((8 : Int32) &&& 0x3f).toInt64.toUInt64).toInt64).toInt32).toInt8.toInt32)), (.int (6 : Int32)), (.ref a0)])) rfl rfl (hb hby d11_75)
  have O7 : OBs Z h7 a0 (((((((xs.set 0 (own_v0 q2)).set 1 (own_v1 q2)).set 2 (own_v2 q2)).set 3 (own_v3 q2)).set 4 (own_v4 q2)).set 5 (own_v5 q2)).set 6 (own_v6 q2)) := OBs.set O6 W7 (fits_nar_byte _) 6 rfl (by rw [show ((((((xs.set 0 (own_v0 q2)).set 1 (own_v1 q2)).set 2 (own_v2 q2)).set 3 (own_v3 q2)).set 4 (own_v4 q2)).set 5 (own_v5 q2)).length = 16 from (by simp only [List.length_set, hlen])]; decide)
  have KC7 : Keep h0 h7 [a0] := KC6.wr W7 (Or.inl (List.mem_of_getElem? (i := 0) rfl))
  have N7 := Fr.snoc X7 N6 gn_a0
  refine OGo.step st7 ?_
  show OGo _ _ _ _ _ _ _ (T7.setTop (mkF m 76 #[.val (.ref a0), .val (.int (0 : Int32)), .val (.long q2), .second] []))
  refine OGo.step (F' := T7.setTop (mkF m 84 #[.val (.ref a0), .val (.int (0 : Int32)), .val (.long q2), .second] [(.int ((q2.toInt32).toInt8.toInt32)), (.int (7 : Int32)), (.ref a0)])) (fun t kt => ?_) ?_
  · show Steps p.tables e below (T7.setTop (mkF m 76 #[.val (.ref a0), .val (.int (0 : Int32)), .val (.long q2), .second] [])) t
    refine XS.aloadN X7.here hx rfl (hb hby d11_76) rfl rfl ?_
    show Steps p.tables e below (T7.setTop (mkF m 77 #[.val (.ref a0), .val (.int (0 : Int32)), .val (.long q2), .second] [(.ref a0)])) t
    refine XS.iloadN X7.here hx rfl (hb hby d11_77) rfl ?_
    show Steps p.tables e below (T7.setTop (mkF m 78 #[.val (.ref a0), .val (.int (0 : Int32)), .val (.long q2), .second] [(.int (0 : Int32)), (.ref a0)])) t
    refine XS.bipush X7.here hx rfl (hb hby d11_78) ?_
    show Steps p.tables e below (T7.setTop (mkF m 80 #[.val (.ref a0), .val (.int (0 : Int32)), .val (.long q2), .second] [(.int (7 : Int32)), (.int (0 : Int32)), (.ref a0)])) t
    refine XS.iadd X7.here hx rfl (hb hby d11_80) rfl ?_
    show Steps p.tables e below (T7.setTop (mkF m 81 #[.val (.ref a0), .val (.int (0 : Int32)), .val (.long q2), .second] [(.int (7 : Int32)), (.ref a0)])) t
    refine XS.lloadN X7.here hx rfl (hb hby d11_81) rfl ?_
    show Steps p.tables e below (T7.setTop (mkF m 82 #[.val (.ref a0), .val (.int (0 : Int32)), .val (.long q2), .second] [(.long q2), (.int (7 : Int32)), (.ref a0)])) t
    refine XS.l2i X7.here hx rfl (hb hby d11_82) rfl ?_
    show Steps p.tables e below (T7.setTop (mkF m 83 #[.val (.ref a0), .val (.int (0 : Int32)), .val (.long q2), .second] [(.int (q2.toInt32)), (.int (7 : Int32)), (.ref a0)])) t
    refine XS.i2b X7.here hx rfl (hb hby d11_83) rfl ?_
    exact kt
  obtain ⟨kk8, cl8, Ar8, qz8, S8, N8a, H8, G8⟩ := id (O7)
  have hin8 : ¬ ((7 : Int32) < 0 ∨ cl8.slots.size ≤ ((7 : Int32)).toNatClampNeg) := inb_of S8 (own_lt16 (n := 16) (by simp only [List.length_set, hlen]) (by decide) (by decide))
  obtain ⟨T8, h8, X8, e8, W8, st8⟩ := stB X7 hx hZ e7 Ar8 (j := (7 : Int32)) hin8 (g := (mkF m 84 #[.val (.ref a0), .val (.int (0 : Int32)), .val (.long q2), .second] [(.int ((q2.toInt32).toInt8.toInt32)), (.int (7 : Int32)), (.ref a0)])) rfl rfl (hb hby d11_84)
  have O8 : OBs Z h8 a0 ((((((((xs.set 0 (own_v0 q2)).set 1 (own_v1 q2)).set 2 (own_v2 q2)).set 3 (own_v3 q2)).set 4 (own_v4 q2)).set 5 (own_v5 q2)).set 6 (own_v6 q2)).set 7 (own_v7 q2)) := OBs.set O7 W8 (fits_nar_byte _) 7 rfl (by rw [show (((((((xs.set 0 (own_v0 q2)).set 1 (own_v1 q2)).set 2 (own_v2 q2)).set 3 (own_v3 q2)).set 4 (own_v4 q2)).set 5 (own_v5 q2)).set 6 (own_v6 q2)).length = 16 from (by simp only [List.length_set, hlen])]; decide)
  have KC8 : Keep h0 h8 [a0] := KC7.wr W8 (Or.inl (List.mem_of_getElem? (i := 0) rfl))
  have N8 := Fr.snoc X8 N7 gn_a0
  refine OGo.step st8 ?_
  show OGo _ _ _ _ _ _ _ (T8.setTop (mkF m 85 #[.val (.ref a0), .val (.int (0 : Int32)), .val (.long q2), .second] []))
  refine OGo.retV X8 hx hlk hret (hb hby d11_85) ?_ (by decide) (by decide)
  show Q11_0 Z a0 q2 xs h0 n0 _ T8.heap _
  rw [e8]
  exact ⟨rfl, N8, KC8, ((((((((E_a0.wr W1).wr W2).wr W3).wr W4).wr W5).wr W6).wr W7).wr W8), O8⟩
/-! body 12: com/example/veiled_alerts/veiledalerts/model/NetworkContainingPinLaw.get8:([BI)J -/
theorem d12_0 : decode method_4_code 0 = .ok (.aload_n 0, 1) := by decide +kernel
theorem d12_1 : decode method_4_code 1 = .ok (.iload_n 1, 1) := by decide +kernel
theorem d12_2 : decode method_4_code 2 = .ok (.baload, 1) := by decide +kernel
theorem d12_3 : decode method_4_code 3 = .ok (.i2l, 1) := by decide +kernel
theorem d12_4 : decode method_4_code 4 = .ok (.ldc2_w 51, 3) := by decide +kernel
theorem d12_7 : decode method_4_code 7 = .ok (.land, 1) := by decide +kernel
theorem d12_8 : decode method_4_code 8 = .ok (.bipush 56, 2) := by decide +kernel
theorem d12_10 : decode method_4_code 10 = .ok (.lshl, 1) := by decide +kernel
theorem d12_11 : decode method_4_code 11 = .ok (.aload_n 0, 1) := by decide +kernel
theorem d12_12 : decode method_4_code 12 = .ok (.iload_n 1, 1) := by decide +kernel
theorem d12_13 : decode method_4_code 13 = .ok (.iconst 1, 1) := by decide +kernel
theorem d12_14 : decode method_4_code 14 = .ok (.iadd, 1) := by decide +kernel
theorem d12_15 : decode method_4_code 15 = .ok (.baload, 1) := by decide +kernel
theorem d12_16 : decode method_4_code 16 = .ok (.i2l, 1) := by decide +kernel
theorem d12_17 : decode method_4_code 17 = .ok (.ldc2_w 51, 3) := by decide +kernel
theorem d12_20 : decode method_4_code 20 = .ok (.land, 1) := by decide +kernel
theorem d12_21 : decode method_4_code 21 = .ok (.bipush 48, 2) := by decide +kernel
theorem d12_23 : decode method_4_code 23 = .ok (.lshl, 1) := by decide +kernel
theorem d12_24 : decode method_4_code 24 = .ok (.lor, 1) := by decide +kernel
theorem d12_25 : decode method_4_code 25 = .ok (.aload_n 0, 1) := by decide +kernel
theorem d12_26 : decode method_4_code 26 = .ok (.iload_n 1, 1) := by decide +kernel
theorem d12_27 : decode method_4_code 27 = .ok (.iconst 2, 1) := by decide +kernel
theorem d12_28 : decode method_4_code 28 = .ok (.iadd, 1) := by decide +kernel
theorem d12_29 : decode method_4_code 29 = .ok (.baload, 1) := by decide +kernel
theorem d12_30 : decode method_4_code 30 = .ok (.i2l, 1) := by decide +kernel
theorem d12_31 : decode method_4_code 31 = .ok (.ldc2_w 51, 3) := by decide +kernel
theorem d12_34 : decode method_4_code 34 = .ok (.land, 1) := by decide +kernel
theorem d12_35 : decode method_4_code 35 = .ok (.bipush 40, 2) := by decide +kernel
theorem d12_37 : decode method_4_code 37 = .ok (.lshl, 1) := by decide +kernel
theorem d12_38 : decode method_4_code 38 = .ok (.lor, 1) := by decide +kernel
theorem d12_39 : decode method_4_code 39 = .ok (.aload_n 0, 1) := by decide +kernel
theorem d12_40 : decode method_4_code 40 = .ok (.iload_n 1, 1) := by decide +kernel
theorem d12_41 : decode method_4_code 41 = .ok (.iconst 3, 1) := by decide +kernel
theorem d12_42 : decode method_4_code 42 = .ok (.iadd, 1) := by decide +kernel
theorem d12_43 : decode method_4_code 43 = .ok (.baload, 1) := by decide +kernel
theorem d12_44 : decode method_4_code 44 = .ok (.i2l, 1) := by decide +kernel
theorem d12_45 : decode method_4_code 45 = .ok (.ldc2_w 51, 3) := by decide +kernel
theorem d12_48 : decode method_4_code 48 = .ok (.land, 1) := by decide +kernel
theorem d12_49 : decode method_4_code 49 = .ok (.bipush 32, 2) := by decide +kernel
theorem d12_51 : decode method_4_code 51 = .ok (.lshl, 1) := by decide +kernel
theorem d12_52 : decode method_4_code 52 = .ok (.lor, 1) := by decide +kernel
theorem d12_53 : decode method_4_code 53 = .ok (.aload_n 0, 1) := by decide +kernel
theorem d12_54 : decode method_4_code 54 = .ok (.iload_n 1, 1) := by decide +kernel
theorem d12_55 : decode method_4_code 55 = .ok (.iconst 4, 1) := by decide +kernel
theorem d12_56 : decode method_4_code 56 = .ok (.iadd, 1) := by decide +kernel
theorem d12_57 : decode method_4_code 57 = .ok (.baload, 1) := by decide +kernel
theorem d12_58 : decode method_4_code 58 = .ok (.i2l, 1) := by decide +kernel
theorem d12_59 : decode method_4_code 59 = .ok (.ldc2_w 51, 3) := by decide +kernel
theorem d12_62 : decode method_4_code 62 = .ok (.land, 1) := by decide +kernel
theorem d12_63 : decode method_4_code 63 = .ok (.bipush 24, 2) := by decide +kernel
theorem d12_65 : decode method_4_code 65 = .ok (.lshl, 1) := by decide +kernel
theorem d12_66 : decode method_4_code 66 = .ok (.lor, 1) := by decide +kernel
theorem d12_67 : decode method_4_code 67 = .ok (.aload_n 0, 1) := by decide +kernel
theorem d12_68 : decode method_4_code 68 = .ok (.iload_n 1, 1) := by decide +kernel
theorem d12_69 : decode method_4_code 69 = .ok (.iconst 5, 1) := by decide +kernel
theorem d12_70 : decode method_4_code 70 = .ok (.iadd, 1) := by decide +kernel
theorem d12_71 : decode method_4_code 71 = .ok (.baload, 1) := by decide +kernel
theorem d12_72 : decode method_4_code 72 = .ok (.i2l, 1) := by decide +kernel
theorem d12_73 : decode method_4_code 73 = .ok (.ldc2_w 51, 3) := by decide +kernel
theorem d12_76 : decode method_4_code 76 = .ok (.land, 1) := by decide +kernel
theorem d12_77 : decode method_4_code 77 = .ok (.bipush 16, 2) := by decide +kernel
theorem d12_79 : decode method_4_code 79 = .ok (.lshl, 1) := by decide +kernel
theorem d12_80 : decode method_4_code 80 = .ok (.lor, 1) := by decide +kernel
theorem d12_81 : decode method_4_code 81 = .ok (.aload_n 0, 1) := by decide +kernel
theorem d12_82 : decode method_4_code 82 = .ok (.iload_n 1, 1) := by decide +kernel
theorem d12_83 : decode method_4_code 83 = .ok (.bipush 6, 2) := by decide +kernel
theorem d12_85 : decode method_4_code 85 = .ok (.iadd, 1) := by decide +kernel
theorem d12_86 : decode method_4_code 86 = .ok (.baload, 1) := by decide +kernel
theorem d12_87 : decode method_4_code 87 = .ok (.i2l, 1) := by decide +kernel
theorem d12_88 : decode method_4_code 88 = .ok (.ldc2_w 51, 3) := by decide +kernel
theorem d12_91 : decode method_4_code 91 = .ok (.land, 1) := by decide +kernel
theorem d12_92 : decode method_4_code 92 = .ok (.bipush 8, 2) := by decide +kernel
theorem d12_94 : decode method_4_code 94 = .ok (.lshl, 1) := by decide +kernel
theorem d12_95 : decode method_4_code 95 = .ok (.lor, 1) := by decide +kernel
theorem d12_96 : decode method_4_code 96 = .ok (.aload_n 0, 1) := by decide +kernel
theorem d12_97 : decode method_4_code 97 = .ok (.iload_n 1, 1) := by decide +kernel
theorem d12_98 : decode method_4_code 98 = .ok (.bipush 7, 2) := by decide +kernel
theorem d12_100 : decode method_4_code 100 = .ok (.iadd, 1) := by decide +kernel
theorem d12_101 : decode method_4_code 101 = .ok (.baload, 1) := by decide +kernel
theorem d12_102 : decode method_4_code 102 = .ok (.i2l, 1) := by decide +kernel
theorem d12_103 : decode method_4_code 103 = .ok (.ldc2_w 51, 3) := by decide +kernel
theorem d12_106 : decode method_4_code 106 = .ok (.land, 1) := by decide +kernel
theorem d12_107 : decode method_4_code 107 = .ok (.lor, 1) := by decide +kernel
theorem d12_108 : decode method_4_code 108 = .ok (.lreturn, 1) := by decide +kernel
theorem pn_12 : plainName "com/example/veiled_alerts/veiledalerts/model/NetworkContainingPinLaw" = true := by first | (simp [plainName, overriddenIn]; done) | decide +kernel
theorem ef_12_0 (m : MethodId) (x0 : Addr) : entryFrame m #[(.ref x0), (.int (0 : Int32))] 2 = mkF m 0 #[.val (.ref x0), .val (.int (0 : Int32))] [] := by first | (simp [entryFrame, mkF, argsToLocals, Value.category]; done) | rfl
def f12_0 (xs : List Int32) : Int64 :=
  (((((((((((xs.getD 0 0).toInt64) &&& (255 : Int64)) <<< ((56 : Int32) &&& 0x3f).toInt64) ||| ((((xs.getD 1 0).toInt64) &&& (255 : Int64)) <<< ((48 : Int32) &&& 0x3f).toInt64)) ||| ((((xs.getD 2 0).toInt64) &&& (255 : Int64)) <<< ((40 : Int32) &&& 0x3f).toInt64)) ||| ((((xs.getD 3 0).toInt64) &&& (255 : Int64)) <<< ((32 : Int32) &&& 0x3f).toInt64)) ||| ((((xs.getD 4 0).toInt64) &&& (255 : Int64)) <<< ((24 : Int32) &&& 0x3f).toInt64)) ||| ((((xs.getD 5 0).toInt64) &&& (255 : Int64)) <<< ((16 : Int32) &&& 0x3f).toInt64)) ||| ((((xs.getD 6 0).toInt64) &&& (255 : Int64)) <<< ((8 : Int32) &&& 0x3f).toInt64)) ||| (((xs.getD 7 0).toInt64) &&& (255 : Int64)))
set_option maxRecDepth 65536 in
set_option maxHeartbeats 40000000 in
theorem rm12_0 (l : Launch) (Z : State) (az : Array Value) (hw : ∀ d ∈ tables_1, d.before az Z = true) (ws : List Jvm.Cond) (a0 : Addr) (xs : List Int32) (h0 : Heap) (n0 : Nat) (Z0 : n0 ≤ h0.size) (O_a0 : OBs Z h0 a0 xs) (hlen : xs.length = 16) :
    OCtr l Z (⟨"com/example/veiled_alerts/veiledalerts/model/NetworkContainingPinLaw", "get8", "([BI)J"⟩ : MethodName) method_4_code 2 (some .long) ws ({ frames := 0, cells := 0, slots := 0, locals := 0 } : Room) #[(.ref a0), (.int (0 : Int32))] h0 (OPure (some (.long (f12_0 xs))) h0 n0) := by
  refine OCtr.of (plainFor_of_name pn_12) ?_
  intro p e s m below meth c s₁ X0 hx hlk hZ hown0 hnm hby hml0 hret e0
  have hown : s.vm.findClass "com/example/veiled_alerts/veiledalerts/model/NetworkContainingPinLaw" = some m.cls := hown0
  have hml : c.maxLocals = 2 := hml0
  have N0 := Fr.nil n0
  refine OGo.step (fun t k => castTop (ef_12_0 m a0) k) ?_
  refine OGo.step (F' := s₁.setTop (mkF m 2 #[.val (.ref a0), .val (.int (0 : Int32))] [(.int (0 : Int32)), (.ref a0)])) (fun t kt => ?_) ?_
  · show Steps p.tables e below (s₁.setTop (mkF m 0 #[.val (.ref a0), .val (.int (0 : Int32))] [])) t
    refine XS.aloadN X0.here hx rfl (hb hby d12_0) rfl rfl ?_
    show Steps p.tables e below (s₁.setTop (mkF m 1 #[.val (.ref a0), .val (.int (0 : Int32))] [(.ref a0)])) t
    refine XS.iloadN X0.here hx rfl (hb hby d12_1) rfl ?_
    exact kt
  obtain ⟨kk1, cl1, Ar1, qz1, S1, N1a, H1, G1⟩ := id (O_a0)
  have hin1 : ¬ ((0 : Int32) < 0 ∨ cl1.slots.size ≤ ((0 : Int32)).toNatClampNeg) := inb_of S1 (own_lt16 (n := 16) (by simp only [List.length_set, hlen]) (by decide) (by decide))
  have hat1 : cl1.slots[((0 : Int32)).toNatClampNeg]? = some (.int (xs.getD 0 0)) := H1.at hin1 (own_getv _ _)
  refine OGo.step (F' := s₁.setTop (mkF m 3 #[.val (.ref a0), .val (.int (0 : Int32))] [(.int (xs.getD 0 0))])) (fun t kt => ?_) ?_
  · show Steps p.tables e below (s₁.setTop (mkF m 2 #[.val (.ref a0), .val (.int (0 : Int32))] [(.int (0 : Int32)), (.ref a0)])) t
    refine X0.baloadBytes hx (j := (0 : Int32)) (v := (.int (xs.getD 0 0))) (by rw [e0]; exact Ar1.1) (State.isArrayOf_alike hZ.alike Ar1.2.1) Ar1.2.2 hin1 hat1 (g := (mkF m 2 #[.val (.ref a0), .val (.int (0 : Int32))] [(.int (0 : Int32)), (.ref a0)])) rfl rfl (hb hby d12_2) _ ?_
    exact kt
  refine OGo.step (F' := s₁.setTop (mkF m 15 #[.val (.ref a0), .val (.int (0 : Int32))] [(.int (1 : Int32)), (.ref a0), (.long ((((xs.getD 0 0).toInt64) &&& (255 : Int64)) <<< ((56 : Int32) &&& 0x3f).toInt64))])) (fun t kt => ?_) ?_
  · show Steps p.tables e below (s₁.setTop (mkF m 3 #[.val (.ref a0), .val (.int (0 : Int32))] [(.int (xs.getD 0 0))])) t
    refine XS.i2l X0.here hx rfl (hb hby d12_3) rfl ?_
    show Steps p.tables e below (s₁.setTop (mkF m 4 #[.val (.ref a0), .val (.int (0 : Int32))] [(.long ((xs.getD 0 0).toInt64))])) t
    refine X0.ldc2Long hx hown (mvT hZ (own_wd hw 73 rfl)) (g := (mkF m 4 #[.val (.ref a0), .val (.int (0 : Int32))] [(.long ((xs.getD 0 0).toInt64))])) rfl (hb hby d12_4) _ ?_
    show Steps p.tables e below (s₁.setTop (mkF m 7 #[.val (.ref a0), .val (.int (0 : Int32))] [(.long (255 : Int64)), (.long ((xs.getD 0 0).toInt64))])) t
    refine XS.land X0.here hx rfl (hb hby d12_7) rfl ?_
    show Steps p.tables e below (s₁.setTop (mkF m 8 #[.val (.ref a0), .val (.int (0 : Int32))] [(.long (((xs.getD 0 0).toInt64) &&& (255 : Int64)))])) t
    refine XS.bipush X0.here hx rfl (hb hby d12_8) ?_
    show Steps p.tables e below (s₁.setTop (mkF m 10 #[.val (.ref a0), .val (.int (0 : Int32))] [(.int (56 : Int32)), (.long (((xs.getD 0 0).toInt64) &&& (255 : Int64)))])) t
    refine XS.lshl X0.here hx rfl (hb hby d12_10) rfl ?_
    show Steps p.tables e below (s₁.setTop (mkF m 11 #[.val (.ref a0), .val (.int (0 : Int32))] [(.long ((((xs.getD 0 0).toInt64) &&& (255 : Int64)) <<< ((56 : Int32) &&& 0x3f).toInt64))])) t
    refine XS.aloadN X0.here hx rfl (hb hby d12_11) rfl rfl ?_
    show Steps p.tables e below (s₁.setTop (mkF m 12 #[.val (.ref a0), .val (.int (0 : Int32))] [(.ref a0), (.long ((((xs.getD 0 0).toInt64) &&& (255 : Int64)) <<< ((56 : Int32) &&& 0x3f).toInt64))])) t
    refine XS.iloadN X0.here hx rfl (hb hby d12_12) rfl ?_
    show Steps p.tables e below (s₁.setTop (mkF m 13 #[.val (.ref a0), .val (.int (0 : Int32))] [(.int (0 : Int32)), (.ref a0), (.long ((((xs.getD 0 0).toInt64) &&& (255 : Int64)) <<< ((56 : Int32) &&& 0x3f).toInt64))])) t
    refine XS.iconst X0.here hx rfl (hb hby d12_13) ?_
    show Steps p.tables e below (s₁.setTop (mkF m 14 #[.val (.ref a0), .val (.int (0 : Int32))] [(.int (1 : Int32)), (.int (0 : Int32)), (.ref a0), (.long ((((xs.getD 0 0).toInt64) &&& (255 : Int64)) <<< ((56 : Int32) &&& 0x3f).toInt64))])) t
    refine XS.iadd X0.here hx rfl (hb hby d12_14) rfl ?_
    exact kt
  obtain ⟨kk2, cl2, Ar2, qz2, S2, N2a, H2, G2⟩ := id (O_a0)
  have hin2 : ¬ ((1 : Int32) < 0 ∨ cl2.slots.size ≤ ((1 : Int32)).toNatClampNeg) := inb_of S2 (own_lt16 (n := 16) (by simp only [List.length_set, hlen]) (by decide) (by decide))
  have hat2 : cl2.slots[((1 : Int32)).toNatClampNeg]? = some (.int (xs.getD 1 0)) := H2.at hin2 (own_getv _ _)
  refine OGo.step (F' := s₁.setTop (mkF m 16 #[.val (.ref a0), .val (.int (0 : Int32))] [(.int (xs.getD 1 0)), (.long ((((xs.getD 0 0).toInt64) &&& (255 : Int64)) <<< ((56 : Int32) &&& 0x3f).toInt64))])) (fun t kt => ?_) ?_
  · show Steps p.tables e below (s₁.setTop (mkF m 15 #[.val (.ref a0), .val (.int (0 : Int32))] [(.int (1 : Int32)), (.ref a0), (.long ((((xs.getD 0 0).toInt64) &&& (255 : Int64)) <<< ((56 : Int32) &&& 0x3f).toInt64))])) t
    refine X0.baloadBytes hx (j := (1 : Int32)) (v := (.int (xs.getD 1 0))) (by rw [e0]; exact Ar2.1) (State.isArrayOf_alike hZ.alike Ar2.2.1) Ar2.2.2 hin2 hat2 (g := (mkF m 15 #[.val (.ref a0), .val (.int (0 : Int32))] [(.int (1 : Int32)), (.ref a0), (.long ((((xs.getD 0 0).toInt64) &&& (255 : Int64)) <<< ((56 : Int32) &&& 0x3f).toInt64))])) rfl rfl (hb hby d12_15) _ ?_
    exact kt
  refine OGo.step (F' := s₁.setTop (mkF m 29 #[.val (.ref a0), .val (.int (0 : Int32))] [(.int (2 : Int32)), (.ref a0), (.long (((((xs.getD 0 0).toInt64) &&& (255 : Int64)) <<< ((56 : Int32) &&& 0x3f).toInt64) ||| ((((xs.getD 1 0).toInt64) &&& (255 : Int64)) <<< ((48 : Int32) &&& 0x3f).toInt64)))])) (fun t kt => ?_) ?_
  · show Steps p.tables e below (s₁.setTop (mkF m 16 #[.val (.ref a0), .val (.int (0 : Int32))] [(.int (xs.getD 1 0)), (.long ((((xs.getD 0 0).toInt64) &&& (255 : Int64)) <<< ((56 : Int32) &&& 0x3f).toInt64))])) t
    refine XS.i2l X0.here hx rfl (hb hby d12_16) rfl ?_
    show Steps p.tables e below (s₁.setTop (mkF m 17 #[.val (.ref a0), .val (.int (0 : Int32))] [(.long ((xs.getD 1 0).toInt64)), (.long ((((xs.getD 0 0).toInt64) &&& (255 : Int64)) <<< ((56 : Int32) &&& 0x3f).toInt64))])) t
    refine X0.ldc2Long hx hown (mvT hZ (own_wd hw 73 rfl)) (g := (mkF m 17 #[.val (.ref a0), .val (.int (0 : Int32))] [(.long ((xs.getD 1 0).toInt64)), (.long ((((xs.getD 0 0).toInt64) &&& (255 : Int64)) <<< ((56 : Int32) &&& 0x3f).toInt64))])) rfl (hb hby d12_17) _ ?_
    show Steps p.tables e below (s₁.setTop (mkF m 20 #[.val (.ref a0), .val (.int (0 : Int32))] [(.long (255 : Int64)), (.long ((xs.getD 1 0).toInt64)), (.long ((((xs.getD 0 0).toInt64) &&& (255 : Int64)) <<< ((56 : Int32) &&& 0x3f).toInt64))])) t
    refine XS.land X0.here hx rfl (hb hby d12_20) rfl ?_
    show Steps p.tables e below (s₁.setTop (mkF m 21 #[.val (.ref a0), .val (.int (0 : Int32))] [(.long (((xs.getD 1 0).toInt64) &&& (255 : Int64))), (.long ((((xs.getD 0 0).toInt64) &&& (255 : Int64)) <<< ((56 : Int32) &&& 0x3f).toInt64))])) t
    refine XS.bipush X0.here hx rfl (hb hby d12_21) ?_
    show Steps p.tables e below (s₁.setTop (mkF m 23 #[.val (.ref a0), .val (.int (0 : Int32))] [(.int (48 : Int32)), (.long (((xs.getD 1 0).toInt64) &&& (255 : Int64))), (.long ((((xs.getD 0 0).toInt64) &&& (255 : Int64)) <<< ((56 : Int32) &&& 0x3f).toInt64))])) t
    refine XS.lshl X0.here hx rfl (hb hby d12_23) rfl ?_
    show Steps p.tables e below (s₁.setTop (mkF m 24 #[.val (.ref a0), .val (.int (0 : Int32))] [(.long ((((xs.getD 1 0).toInt64) &&& (255 : Int64)) <<< ((48 : Int32) &&& 0x3f).toInt64)), (.long ((((xs.getD 0 0).toInt64) &&& (255 : Int64)) <<< ((56 : Int32) &&& 0x3f).toInt64))])) t
    refine XS.lor X0.here hx rfl (hb hby d12_24) rfl ?_
    show Steps p.tables e below (s₁.setTop (mkF m 25 #[.val (.ref a0), .val (.int (0 : Int32))] [(.long (((((xs.getD 0 0).toInt64) &&& (255 : Int64)) <<< ((56 : Int32) &&& 0x3f).toInt64) ||| ((((xs.getD 1 0).toInt64) &&& (255 : Int64)) <<< ((48 : Int32) &&& 0x3f).toInt64)))])) t
    refine XS.aloadN X0.here hx rfl (hb hby d12_25) rfl rfl ?_
    show Steps p.tables e below (s₁.setTop (mkF m 26 #[.val (.ref a0), .val (.int (0 : Int32))] [(.ref a0), (.long (((((xs.getD 0 0).toInt64) &&& (255 : Int64)) <<< ((56 : Int32) &&& 0x3f).toInt64) ||| ((((xs.getD 1 0).toInt64) &&& (255 : Int64)) <<< ((48 : Int32) &&& 0x3f).toInt64)))])) t
    refine XS.iloadN X0.here hx rfl (hb hby d12_26) rfl ?_
    show Steps p.tables e below (s₁.setTop (mkF m 27 #[.val (.ref a0), .val (.int (0 : Int32))] [(.int (0 : Int32)), (.ref a0), (.long (((((xs.getD 0 0).toInt64) &&& (255 : Int64)) <<< ((56 : Int32) &&& 0x3f).toInt64) ||| ((((xs.getD 1 0).toInt64) &&& (255 : Int64)) <<< ((48 : Int32) &&& 0x3f).toInt64)))])) t
    refine XS.iconst X0.here hx rfl (hb hby d12_27) ?_
    show Steps p.tables e below (s₁.setTop (mkF m 28 #[.val (.ref a0), .val (.int (0 : Int32))] [(.int (2 : Int32)), (.int (0 : Int32)), (.ref a0), (.long (((((xs.getD 0 0).toInt64) &&& (255 : Int64)) <<< ((56 : Int32) &&& 0x3f).toInt64) ||| ((((xs.getD 1 0).toInt64) &&& (255 : Int64)) <<< ((48 : Int32) &&& 0x3f).toInt64)))])) t
    refine XS.iadd X0.here hx rfl (hb hby d12_28) rfl ?_
    exact kt
  obtain ⟨kk3, cl3, Ar3, qz3, S3, N3a, H3, G3⟩ := id (O_a0)
  have hin3 : ¬ ((2 : Int32) < 0 ∨ cl3.slots.size ≤ ((2 : Int32)).toNatClampNeg) := inb_of S3 (own_lt16 (n := 16) (by simp only [List.length_set, hlen]) (by decide) (by decide))
  have hat3 : cl3.slots[((2 : Int32)).toNatClampNeg]? = some (.int (xs.getD 2 0)) := H3.at hin3 (own_getv _ _)
  refine OGo.step (F' := s₁.setTop (mkF m 30 #[.val (.ref a0), .val (.int (0 : Int32))] [(.int (xs.getD 2 0)), (.long (((((xs.getD 0 0).toInt64) &&& (255 : Int64)) <<< ((56 : Int32) &&& 0x3f).toInt64) ||| ((((xs.getD 1 0).toInt64) &&& (255 : Int64)) <<< ((48 : Int32) &&& 0x3f).toInt64)))])) (fun t kt => ?_) ?_
  · show Steps p.tables e below (s₁.setTop (mkF m 29 #[.val (.ref a0), .val (.int (0 : Int32))] [(.int (2 : Int32)), (.ref a0), (.long (((((xs.getD 0 0).toInt64) &&& (255 : Int64)) <<< ((56 : Int32) &&& 0x3f).toInt64) ||| ((((xs.getD 1 0).toInt64) &&& (255 : Int64)) <<< ((48 : Int32) &&& 0x3f).toInt64)))])) t
    refine X0.baloadBytes hx (j := (2 : Int32)) (v := (.int (xs.getD 2 0))) (by rw [e0]; exact Ar3.1) (State.isArrayOf_alike hZ.alike Ar3.2.1) Ar3.2.2 hin3 hat3 (g := (mkF m 29 #[.val (.ref a0), .val (.int (0 : Int32))] [(.int (2 : Int32)), (.ref a0), (.long (((((xs.getD 0 0).toInt64) &&& (255 : Int64)) <<< ((56 : Int32) &&& 0x3f).toInt64) ||| ((((xs.getD 1 0).toInt64) &&& (255 : Int64)) <<< ((48 : Int32) &&& 0x3f).toInt64)))])) rfl rfl (hb hby d12_29) _ ?_
    exact kt
  refine OGo.step (F' := s₁.setTop (mkF m 43 #[.val (.ref a0), .val (.int (0 : Int32))] [(.int (3 : Int32)), (.ref a0), (.long ((((((xs.getD 0 0).toInt64) &&& (255 : Int64)) <<< ((56 : Int32) &&& 0x3f).toInt64) ||| ((((xs.getD 1 0).toInt64) &&& (255 : Int64)) <<< ((48 : Int32) &&& 0x3f).toInt64)) ||| ((((xs.getD 2 0).toInt64) &&& (255 : Int64)) <<< ((40 : Int32) &&& 0x3f).toInt64)))])) (fun t kt => ?_) ?_
  · show Steps p.tables e below (s₁.setTop (mkF m 30 #[.val (.ref a0), .val (.int (0 : Int32))] [(.int (xs.getD 2 0)), (.long (((((xs.getD 0 0).toInt64) &&& (255 : Int64)) <<< ((56 : Int32) &&& 0x3f).toInt64) ||| ((((xs.getD 1 0).toInt64) &&& (255 : Int64)) <<< ((48 : Int32) &&& 0x3f).toInt64)))])) t
    refine XS.i2l X0.here hx rfl (hb hby d12_30) rfl ?_
    show Steps p.tables e below (s₁.setTop (mkF m 31 #[.val (.ref a0), .val (.int (0 : Int32))] [(.long ((xs.getD 2 0).toInt64)), (.long (((((xs.getD 0 0).toInt64) &&& (255 : Int64)) <<< ((56 : Int32) &&& 0x3f).toInt64) ||| ((((xs.getD 1 0).toInt64) &&& (255 : Int64)) <<< ((48 : Int32) &&& 0x3f).toInt64)))])) t
    refine X0.ldc2Long hx hown (mvT hZ (own_wd hw 73 rfl)) (g := (mkF m 31 #[.val (.ref a0), .val (.int (0 : Int32))] [(.long ((xs.getD 2 0).toInt64)), (.long (((((xs.getD 0 0).toInt64) &&& (255 : Int64)) <<< ((56 : Int32) &&& 0x3f).toInt64) ||| ((((xs.getD 1 0).toInt64) &&& (255 : Int64)) <<< ((48 : Int32) &&& 0x3f).toInt64)))])) rfl (hb hby d12_31) _ ?_
    show Steps p.tables e below (s₁.setTop (mkF m 34 #[.val (.ref a0), .val (.int (0 : Int32))] [(.long (255 : Int64)), (.long ((xs.getD 2 0).toInt64)), (.long (((((xs.getD 0 0).toInt64) &&& (255 : Int64)) <<< ((56 : Int32) &&& 0x3f).toInt64) ||| ((((xs.getD 1 0).toInt64) &&& (255 : Int64)) <<< ((48 : Int32) &&& 0x3f).toInt64)))])) t
    refine XS.land X0.here hx rfl (hb hby d12_34) rfl ?_
    show Steps p.tables e below (s₁.setTop (mkF m 35 #[.val (.ref a0), .val (.int (0 : Int32))] [(.long (((xs.getD 2 0).toInt64) &&& (255 : Int64))), (.long (((((xs.getD 0 0).toInt64) &&& (255 : Int64)) <<< ((56 : Int32) &&& 0x3f).toInt64) ||| ((((xs.getD 1 0).toInt64) &&& (255 : Int64)) <<< ((48 : Int32) &&& 0x3f).toInt64)))])) t
    refine XS.bipush X0.here hx rfl (hb hby d12_35) ?_
    show Steps p.tables e below (s₁.setTop (mkF m 37 #[.val (.ref a0), .val (.int (0 : Int32))] [(.int (40 : Int32)), (.long (((xs.getD 2 0).toInt64) &&& (255 : Int64))), (.long (((((xs.getD 0 0).toInt64) &&& (255 : Int64)) <<< ((56 : Int32) &&& 0x3f).toInt64) ||| ((((xs.getD 1 0).toInt64) &&& (255 : Int64)) <<< ((48 : Int32) &&& 0x3f).toInt64)))])) t
    refine XS.lshl X0.here hx rfl (hb hby d12_37) rfl ?_
    show Steps p.tables e below (s₁.setTop (mkF m 38 #[.val (.ref a0), .val (.int (0 : Int32))] [(.long ((((xs.getD 2 0).toInt64) &&& (255 : Int64)) <<< ((40 : Int32) &&& 0x3f).toInt64)), (.long (((((xs.getD 0 0).toInt64) &&& (255 : Int64)) <<< ((56 : Int32) &&& 0x3f).toInt64) ||| ((((xs.getD 1 0).toInt64) &&& (255 : Int64)) <<< ((48 : Int32) &&& 0x3f).toInt64)))])) t
    refine XS.lor X0.here hx rfl (hb hby d12_38) rfl ?_
    show Steps p.tables e below (s₁.setTop (mkF m 39 #[.val (.ref a0), .val (.int (0 : Int32))] [(.long ((((((xs.getD 0 0).toInt64) &&& (255 : Int64)) <<< ((56 : Int32) &&& 0x3f).toInt64) ||| ((((xs.getD 1 0).toInt64) &&& (255 : Int64)) <<< ((48 : Int32) &&& 0x3f).toInt64)) ||| ((((xs.getD 2 0).toInt64) &&& (255 : Int64)) <<< ((40 : Int32) &&& 0x3f).toInt64)))])) t
    refine XS.aloadN X0.here hx rfl (hb hby d12_39) rfl rfl ?_
    show Steps p.tables e below (s₁.setTop (mkF m 40 #[.val (.ref a0), .val (.int (0 : Int32))] [(.ref a0), (.long ((((((xs.getD 0 0).toInt64) &&& (255 : Int64)) <<< ((56 : Int32) &&& 0x3f).toInt64) ||| ((((xs.getD 1 0).toInt64) &&& (255 : Int64)) <<< ((48 : Int32) &&& 0x3f).toInt64)) ||| ((((xs.getD 2 0).toInt64) &&& (255 : Int64)) <<< ((40 : Int32) &&& 0x3f).toInt64)))])) t
    refine XS.iloadN X0.here hx rfl (hb hby d12_40) rfl ?_
    show Steps p.tables e below (s₁.setTop (mkF m 41 #[.val (.ref a0), .val (.int (0 : Int32))] [(.int (0 : Int32)), (.ref a0), (.long ((((((xs.getD 0 0).toInt64) &&& (255 : Int64)) <<< ((56 : Int32) &&& 0x3f).toInt64) ||| ((((xs.getD 1 0).toInt64) &&& (255 : Int64)) <<< ((48 : Int32) &&& 0x3f).toInt64)) ||| ((((xs.getD 2 0).toInt64) &&& (255 : Int64)) <<< ((40 : Int32) &&& 0x3f).toInt64)))])) t
    refine XS.iconst X0.here hx rfl (hb hby d12_41) ?_
    show Steps p.tables e below (s₁.setTop (mkF m 42 #[.val (.ref a0), .val (.int (0 : Int32))] [(.int (3 : Int32)), (.int (0 : Int32)), (.ref a0), (.long ((((((xs.getD 0 0).toInt64) &&& (255 : Int64)) <<< ((56 : Int32) &&& 0x3f).toInt64) ||| ((((xs.getD 1 0).toInt64) &&& (255 : Int64)) <<< ((48 : Int32) &&& 0x3f).toInt64)) ||| ((((xs.getD 2 0).toInt64) &&& (255 : Int64)) <<< ((40 : Int32) &&& 0x3f).toInt64)))])) t
    refine XS.iadd X0.here hx rfl (hb hby d12_42) rfl ?_
    exact kt
  obtain ⟨kk4, cl4, Ar4, qz4, S4, N4a, H4, G4⟩ := id (O_a0)
  have hin4 : ¬ ((3 : Int32) < 0 ∨ cl4.slots.size ≤ ((3 : Int32)).toNatClampNeg) := inb_of S4 (own_lt16 (n := 16) (by simp only [List.length_set, hlen]) (by decide) (by decide))
  have hat4 : cl4.slots[((3 : Int32)).toNatClampNeg]? = some (.int (xs.getD 3 0)) := H4.at hin4 (own_getv _ _)
  refine OGo.step (F' := s₁.setTop (mkF m 44 #[.val (.ref a0), .val (.int (0 : Int32))] [(.int (xs.getD 3 0)), (.long ((((((xs.getD 0 0).toInt64) &&& (255 : Int64)) <<< ((56 : Int32) &&& 0x3f).toInt64) ||| ((((xs.getD 1 0).toInt64) &&& (255 : Int64)) <<< ((48 : Int32) &&& 0x3f).toInt64)) ||| ((((xs.getD 2 0).toInt64) &&& (255 : Int64)) <<< ((40 : Int32) &&& 0x3f).toInt64)))])) (fun t kt => ?_) ?_
  · show Steps p.tables e below (s₁.setTop (mkF m 43 #[.val (.ref a0), .val (.int (0 : Int32))] [(.int (3 : Int32)), (.ref a0), (.long ((((((xs.getD 0 0).toInt64) &&& (255 : Int64)) <<< ((56 : Int32) &&& 0x3f).toInt64) ||| ((((xs.getD 1 0).toInt64) &&& (255 : Int64)) <<< ((48 : Int32) &&& 0x3f).toInt64)) ||| ((((xs.getD 2 0).toInt64) &&& (255 : Int64)) <<< ((40 : Int32) &&& 0x3f).toInt64)))])) t
    refine X0.baloadBytes hx (j := (3 : Int32)) (v := (.int (xs.getD 3 0))) (by rw [e0]; exact Ar4.1) (State.isArrayOf_alike hZ.alike Ar4.2.1) Ar4.2.2 hin4 hat4 (g := (mkF m 43 #[.val (.ref a0), .val (.int (0 : Int32))] [(.int (3 : Int32)), (.ref a0), (.long ((((((xs.getD 0 0).toInt64) &&& (255 : Int64)) <<< ((56 : Int32) &&& 0x3f).toInt64) ||| ((((xs.getD 1 0).toInt64) &&& (255 : Int64)) <<< ((48 : Int32) &&& 0x3f).toInt64)) ||| ((((xs.getD 2 0).toInt64) &&& (255 : Int64)) <<< ((40 : Int32) &&& 0x3f).toInt64)))])) rfl rfl (hb hby d12_43) _ ?_
    exact kt
  refine OGo.step (F' := s₁.setTop (mkF m 57 #[.val (.ref a0), .val (.int (0 : Int32))] [(.int (4 : Int32)), (.ref a0), (.long (((((((xs.getD 0 0).toInt64) &&& (255 : Int64)) <<< ((56 : Int32) &&& 0x3f).toInt64) ||| ((((xs.getD 1 0).toInt64) &&& (255 : Int64)) <<< ((48 : Int32) &&& 0x3f).toInt64)) ||| ((((xs.getD 2 0).toInt64) &&& (255 : Int64)) <<< ((40 : Int32) &&& 0x3f).toInt64)) ||| ((((xs.getD 3 0).toInt64) &&& (255 : Int64)) <<< ((32 : Int32) &&& 0x3f).toInt64)))])) (fun t kt => ?_) ?_
  · show Steps p.tables e below (s₁.setTop (mkF m 44 #[.val (.ref a0), .val (.int (0 : Int32))] [(.int (xs.getD 3 0)), (.long ((((((xs.getD 0 0).toInt64) &&& (255 : Int64)) <<< ((56 : Int32) &&& 0x3f).toInt64) ||| ((((xs.getD 1 0).toInt64) &&& (255 : Int64)) <<< ((48 : Int32) &&& 0x3f).toInt64)) ||| ((((xs.getD 2 0).toInt64) &&& (255 : Int64)) <<< ((40 : Int32) &&& 0x3f).toInt64)))])) t
    refine XS.i2l X0.here hx rfl (hb hby d12_44) rfl ?_
    show Steps p.tables e below (s₁.setTop (mkF m 45 #[.val (.ref a0), .val (.int (0 : Int32))] [(.long ((xs.getD 3 0).toInt64)), (.long ((((((xs.getD 0 0).toInt64) &&& (255 : Int64)) <<< ((56 : Int32) &&& 0x3f).toInt64) ||| ((((xs.getD 1 0).toInt64) &&& (255 : Int64)) <<< ((48 : Int32) &&& 0x3f).toInt64)) ||| ((((xs.getD 2 0).toInt64) &&& (255 : Int64)) <<< ((40 : Int32) &&& 0x3f).toInt64)))])) t
    refine X0.ldc2Long hx hown (mvT hZ (own_wd hw 73 rfl)) (g := (mkF m 45 #[.val (.ref a0), .val (.int (0 : Int32))] [(.long ((xs.getD 3 0).toInt64)), (.long ((((((xs.getD 0 0).toInt64) &&& (255 : Int64)) <<< ((56 : Int32) &&& 0x3f).toInt64) ||| ((((xs.getD 1 0).toInt64) &&& (255 : Int64)) <<< ((48 : Int32) &&& 0x3f).toInt64)) ||| ((((xs.getD 2 0).toInt64) &&& (255 : Int64)) <<< ((40 : Int32) &&& 0x3f).toInt64)))])) rfl (hb hby d12_45) _ ?_
    show Steps p.tables e below (s₁.setTop (mkF m 48 #[.val (.ref a0), .val (.int (0 : Int32))] [(.long (255 : Int64)), (.long ((xs.getD 3 0).toInt64)), (.long ((((((xs.getD 0 0).toInt64) &&& (255 : Int64)) <<< ((56 : Int32) &&& 0x3f).toInt64) ||| ((((xs.getD 1 0).toInt64) &&& (255 : Int64)) <<< ((48 : Int32) &&& 0x3f).toInt64)) ||| ((((xs.getD 2 0).toInt64) &&& (255 : Int64)) <<< ((40 : Int32) &&& 0x3f).toInt64)))])) t
    refine XS.land X0.here hx rfl (hb hby d12_48) rfl ?_
    show Steps p.tables e below (s₁.setTop (mkF m 49 #[.val (.ref a0), .val (.int (0 : Int32))] [(.long (((xs.getD 3 0).toInt64) &&& (255 : Int64))), (.long ((((((xs.getD 0 0).toInt64) &&& (255 : Int64)) <<< ((56 : Int32) &&& 0x3f).toInt64) ||| ((((xs.getD 1 0).toInt64) &&& (255 : Int64)) <<< ((48 : Int32) &&& 0x3f).toInt64)) ||| ((((xs.getD 2 0).toInt64) &&& (255 : Int64)) <<< ((40 : Int32) &&& 0x3f).toInt64)))])) t
    refine XS.bipush X0.here hx rfl (hb hby d12_49) ?_
    show Steps p.tables e below (s₁.setTop (mkF m 51 #[.val (.ref a0), .val (.int (0 : Int32))] [(.int (32 : Int32)), (.long (((xs.getD 3 0).toInt64) &&& (255 : Int64))), (.long ((((((xs.getD 0 0).toInt64) &&& (255 : Int64)) <<< ((56 : Int32) &&& 0x3f).toInt64) ||| ((((xs.getD 1 0).toInt64) &&& (255 : Int64)) <<< ((48 : Int32) &&& 0x3f).toInt64)) ||| ((((xs.getD 2 0).toInt64) &&& (255 : Int64)) <<< ((40 : Int32) &&& 0x3f).toInt64)))])) t
    refine XS.lshl X0.here hx rfl (hb hby d12_51) rfl ?_
    show Steps p.tables e below (s₁.setTop (mkF m 52 #[.val (.ref a0), .val (.int (0 : Int32))] [(.long ((((xs.getD 3 0).toInt64) &&& (255 : Int64)) <<< ((32 : Int32) &&& 0x3f).toInt64)), (.long ((((((xs.getD 0 0).toInt64) &&& (255 : Int64)) <<< ((56 : Int32) &&& 0x3f).toInt64) ||| ((((xs.getD 1 0).toInt64) &&& (255 : Int64)) <<< ((48 : Int32) &&& 0x3f).toInt64)) ||| ((((xs.getD 2 0).toInt64) &&& (255 : Int64)) <<< ((40 : Int32) &&& 0x3f).toInt64)))])) t
    refine XS.lor X0.here hx rfl (hb hby d12_52) rfl ?_
    show Steps p.tables e below (s₁.setTop (mkF m 53 #[.val (.ref a0), .val (.int (0 : Int32))] [(.long (((((((xs.getD 0 0).toInt64) &&& (255 : Int64)) <<< ((56 : Int32) &&& 0x3f).toInt64) ||| ((((xs.getD 1 0).toInt64) &&& (255 : Int64)) <<< ((48 : Int32) &&& 0x3f).toInt64)) ||| ((((xs.getD 2 0).toInt64) &&& (255 : Int64)) <<< ((40 : Int32) &&& 0x3f).toInt64)) ||| ((((xs.getD 3 0).toInt64) &&& (255 : Int64)) <<< ((32 : Int32) &&& 0x3f).toInt64)))])) t
    refine XS.aloadN X0.here hx rfl (hb hby d12_53) rfl rfl ?_
    show Steps p.tables e below (s₁.setTop (mkF m 54 #[.val (.ref a0), .val (.int (0 : Int32))] [(.ref a0), (.long (((((((xs.getD 0 0).toInt64) &&& (255 : Int64)) <<< ((56 : Int32) &&& 0x3f).toInt64) ||| ((((xs.getD 1 0).toInt64) &&& (255 : Int64)) <<< ((48 : Int32) &&& 0x3f).toInt64)) ||| ((((xs.getD 2 0).toInt64) &&& (255 : Int64)) <<< ((40 : Int32) &&& 0x3f).toInt64)) ||| ((((xs.getD 3 0).toInt64) &&& (255 : Int64)) <<< ((32 : Int32) &&& 0x3f).toInt64)))])) t
    refine XS.iloadN X0.here hx rfl (hb hby d12_54) rfl ?_
    show Steps p.tables e below (s₁.setTop (mkF m 55 #[.val (.ref a0), .val (.int (0 : Int32))] [(.int (0 : Int32)), (.ref a0), (.long (((((((xs.getD 0 0).toInt64) &&& (255 : Int64)) <<< ((56 : Int32) &&& 0x3f).toInt64) ||| ((((xs.getD 1 0).toInt64) &&& (255 : Int64)) <<< ((48 : Int32) &&& 0x3f).toInt64)) ||| ((((xs.getD 2 0).toInt64) &&& (255 : Int64)) <<< ((40 : Int32) &&& 0x3f).toInt64)) ||| ((((xs.getD 3 0).toInt64) &&& (255 : Int64)) <<< ((32 : Int32) &&& 0x3f).toInt64)))])) t
    refine XS.iconst X0.here hx rfl (hb hby d12_55) ?_
    show Steps p.tables e below (s₁.setTop (mkF m 56 #[.val (.ref a0), .val (.int (0 : Int32))] [(.int (4 : Int32)), (.int (0 : Int32)), (.ref a0), (.long (((((((xs.getD 0 0).toInt64) &&& (255 : Int64)) <<< ((56 : Int32) &&& 0x3f).toInt64) ||| ((((xs.getD 1 0).toInt64) &&& (255 : Int64)) <<< ((48 : Int32) &&& 0x3f).toInt64)) ||| ((((xs.getD 2 0).toInt64) &&& (255 : Int64)) <<< ((40 : Int32) &&& 0x3f).toInt64)) ||| ((((xs.getD 3 0).toInt64) &&& (255 : Int64)) <<< ((32 : Int32) &&& 0x3f).toInt64)))])) t
    refine XS.iadd X0.here hx rfl (hb hby d12_56) rfl ?_
    exact kt
  obtain ⟨kk5, cl5, Ar5, qz5, S5, N5a, H5, G5⟩ := id (O_a0)
  have hin5 : ¬ ((4 : Int32) < 0 ∨ cl5.slots.size ≤ ((4 : Int32)).toNatClampNeg) := inb_of S5 (own_lt16 (n := 16) (by simp only [List.length_set, hlen]) (by decide) (by decide))
  have hat5 : cl5.slots[((4 : Int32)).toNatClampNeg]? = some (.int (xs.getD 4 0)) := H5.at hin5 (own_getv _ _)
  refine OGo.step (F' := s₁.setTop (mkF m 58 #[.val (.ref a0), .val (.int (0 : Int32))] [(.int (xs.getD 4 0)), (.long (((((((xs.getD 0 0).toInt64) &&& (255 : Int64)) <<< ((56 : Int32) &&& 0x3f).toInt64) ||| ((((xs.getD 1 0).toInt64) &&& (255 : Int64)) <<< ((48 : Int32) &&& 0x3f).toInt64)) ||| ((((xs.getD 2 0).toInt64) &&& (255 : Int64)) <<< ((40 : Int32) &&& 0x3f).toInt64)) ||| ((((xs.getD 3 0).toInt64) &&& (255 : Int64)) <<< ((32 : Int32) &&& 0x3f).toInt64)))])) (fun t kt => ?_) ?_
  · show Steps p.tables e below (s₁.setTop (mkF m 57 #[.val (.ref a0), .val (.int (0 : Int32))] [(.int (4 : Int32)), (.ref a0), (.long (((((((xs.getD 0 0).toInt64) &&& (255 : Int64)) <<< ((56 : Int32) &&& 0x3f).toInt64) ||| ((((xs.getD 1 0).toInt64) &&& (255 : Int64)) <<< ((48 : Int32) &&& 0x3f).toInt64)) ||| ((((xs.getD 2 0).toInt64) &&& (255 : Int64)) <<< ((40 : Int32) &&& 0x3f).toInt64)) ||| ((((xs.getD 3 0).toInt64) &&& (255 : Int64)) <<< ((32 : Int32) &&& 0x3f).toInt64)))])) t
    refine X0.baloadBytes hx (j := (4 : Int32)) (v := (.int (xs.getD 4 0))) (by rw [e0]; exact Ar5.1) (State.isArrayOf_alike hZ.alike Ar5.2.1) Ar5.2.2 hin5 hat5 (g := (mkF m 57 #[.val (.ref a0), .val (.int (0 : Int32))] [(.int (4 : Int32)), (.ref a0), (.long (((((((xs.getD 0 0).toInt64) &&& (255 : Int64)) <<< ((56 : Int32) &&& 0x3f).toInt64) ||| ((((xs.getD 1 0).toInt64) &&& (255 : Int64)) <<< ((48 : Int32) &&& 0x3f).toInt64)) ||| ((((xs.getD 2 0).toInt64) &&& (255 : Int64)) <<< ((40 : Int32) &&& 0x3f).toInt64)) ||| ((((xs.getD 3 0).toInt64) &&& (255 : Int64)) <<< ((32 : Int32) &&& 0x3f).toInt64)))])) rfl rfl (hb hby d12_57) _ ?_
    exact kt
  refine OGo.step (F' := s₁.setTop (mkF m 71 #[.val (.ref a0), .val (.int (0 : Int32))] [(.int (5 : Int32)), (.ref a0), (.long ((((((((xs.getD 0 0).toInt64) &&& (255 : Int64)) <<< ((56 : Int32) &&& 0x3f).toInt64) ||| ((((xs.getD 1 0).toInt64) &&& (255 : Int64)) <<< ((48 : Int32) &&& 0x3f).toInt64)) ||| ((((xs.getD 2 0).toInt64) &&& (255 : Int64)) <<< ((40 : Int32) &&& 0x3f).toInt64)) ||| ((((xs.getD 3 0).toInt64) &&& (255 : Int64)) <<< ((32 : Int32) &&& 0x3f).toInt64)) ||| ((((xs.getD 4 0).toInt64) &&& (255 : Int64)) <<< ((24 : Int32) &&& 0x3f).toInt64)))])) (fun t kt => ?_) ?_
  · show Steps p.tables e below (s₁.setTop (mkF m 58 #[.val (.ref a0), .val (.int (0 : Int32))] [(.int (xs.getD 4 0)), (.long (((((((xs.getD 0 0).toInt64) &&& (255 : Int64)) <<< ((56 : Int32) &&& 0x3f).toInt64) ||| ((((xs.getD 1 0).toInt64) &&& (255 : Int64)) <<< ((48 : Int32) &&& 0x3f).toInt64)) ||| ((((xs.getD 2 0).toInt64) &&& (255 : Int64)) <<< ((40 : Int32) &&& 0x3f).toInt64)) ||| ((((xs.getD 3 0).toInt64) &&& (255 : Int64)) <<< ((32 : Int32) &&& 0x3f).toInt64)))])) t
    refine XS.i2l X0.here hx rfl (hb hby d12_58) rfl ?_
    show Steps p.tables e below (s₁.setTop (mkF m 59 #[.val (.ref a0), .val (.int (0 : Int32))] [(.long ((xs.getD 4 0).toInt64)), (.long (((((((xs.getD 0 0).toInt64) &&& (255 : Int64)) <<< ((56 : Int32) &&& 0x3f).toInt64) ||| ((((xs.getD 1 0).toInt64) &&& (255 : Int64)) <<< ((48 : Int32) &&& 0x3f).toInt64)) ||| ((((xs.getD 2 0).toInt64) &&& (255 : Int64)) <<< ((40 : Int32) &&& 0x3f).toInt64)) ||| ((((xs.getD 3 0).toInt64) &&& (255 : Int64)) <<< ((32 : Int32) &&& 0x3f).toInt64)))])) t
    refine X0.ldc2Long hx hown (mvT hZ (own_wd hw 73 rfl)) (g := (mkF m 59 #[.val (.ref a0), .val (.int (0 : Int32))] [(.long ((xs.getD 4 0).toInt64)), (.long (((((((xs.getD 0 0).toInt64) &&& (255 : Int64)) <<< ((56 : Int32) &&& 0x3f).toInt64) ||| ((((xs.getD 1 0).toInt64) &&& (255 : Int64)) <<< ((48 : Int32) &&& 0x3f).toInt64)) ||| ((((xs.getD 2 0).toInt64) &&& (255 : Int64)) <<< ((40 : Int32) &&& 0x3f).toInt64)) ||| ((((xs.getD 3 0).toInt64) &&& (255 : Int64)) <<< ((32 : Int32) &&& 0x3f).toInt64)))])) rfl (hb hby d12_59) _ ?_
    show Steps p.tables e below (s₁.setTop (mkF m 62 #[.val (.ref a0), .val (.int (0 : Int32))] [(.long (255 : Int64)), (.long ((xs.getD 4 0).toInt64)), (.long (((((((xs.getD 0 0).toInt64) &&& (255 : Int64)) <<< ((56 : Int32) &&& 0x3f).toInt64) ||| ((((xs.getD 1 0).toInt64) &&& (255 : Int64)) <<< ((48 : Int32) &&& 0x3f).toInt64)) ||| ((((xs.getD 2 0).toInt64) &&& (255 : Int64)) <<< ((40 : Int32) &&& 0x3f).toInt64)) ||| ((((xs.getD 3 0).toInt64) &&& (255 : Int64)) <<< ((32 : Int32) &&& 0x3f).toInt64)))])) t
    refine XS.land X0.here hx rfl (hb hby d12_62) rfl ?_
    show Steps p.tables e below (s₁.setTop (mkF m 63 #[.val (.ref a0), .val (.int (0 : Int32))] [(.long (((xs.getD 4 0).toInt64) &&& (255 : Int64))), (.long (((((((xs.getD 0 0).toInt64) &&& (255 : Int64)) <<< ((56 : Int32) &&& 0x3f).toInt64) ||| ((((xs.getD 1 0).toInt64) &&& (255 : Int64)) <<< ((48 : Int32) &&& 0x3f).toInt64)) ||| ((((xs.getD 2 0).toInt64) &&& (255 : Int64)) <<< ((40 : Int32) &&& 0x3f).toInt64)) ||| ((((xs.getD 3 0).toInt64) &&& (255 : Int64)) <<< ((32 : Int32) &&& 0x3f).toInt64)))])) t
    refine XS.bipush X0.here hx rfl (hb hby d12_63) ?_
    show Steps p.tables e below (s₁.setTop (mkF m 65 #[.val (.ref a0), .val (.int (0 : Int32))] [(.int (24 : Int32)), (.long (((xs.getD 4 0).toInt64) &&& (255 : Int64))), (.long (((((((xs.getD 0 0).toInt64) &&& (255 : Int64)) <<< ((56 : Int32) &&& 0x3f).toInt64) ||| ((((xs.getD 1 0).toInt64) &&& (255 : Int64)) <<< ((48 : Int32) &&& 0x3f).toInt64)) ||| ((((xs.getD 2 0).toInt64) &&& (255 : Int64)) <<< ((40 : Int32) &&& 0x3f).toInt64)) ||| ((((xs.getD 3 0).toInt64) &&& (255 : Int64)) <<< ((32 : Int32) &&& 0x3f).toInt64)))])) t
    refine XS.lshl X0.here hx rfl (hb hby d12_65) rfl ?_
    show Steps p.tables e below (s₁.setTop (mkF m 66 #[.val (.ref a0), .val (.int (0 : Int32))] [(.long ((((xs.getD 4 0).toInt64) &&& (255 : Int64)) <<< ((24 : Int32) &&& 0x3f).toInt64)), (.long (((((((xs.getD 0 0).toInt64) &&& (255 : Int64)) <<< ((56 : Int32) &&& 0x3f).toInt64) ||| ((((xs.getD 1 0).toInt64) &&& (255 : Int64)) <<< ((48 : Int32) &&& 0x3f).toInt64)) ||| ((((xs.getD 2 0).toInt64) &&& (255 : Int64)) <<< ((40 : Int32) &&& 0x3f).toInt64)) ||| ((((xs.getD 3 0).toInt64) &&& (255 : Int64)) <<< ((32 : Int32) &&& 0x3f).toInt64)))])) t
    refine XS.lor X0.here hx rfl (hb hby d12_66) rfl ?_
    show Steps p.tables e below (s₁.setTop (mkF m 67 #[.val (.ref a0), .val (.int (0 : Int32))] [(.long ((((((((xs.getD 0 0).toInt64) &&& (255 : Int64)) <<< ((56 : Int32) &&& 0x3f).toInt64) ||| ((((xs.getD 1 0).toInt64) &&& (255 : Int64)) <<< ((48 : Int32) &&& 0x3f).toInt64)) ||| ((((xs.getD 2 0).toInt64) &&& (255 : Int64)) <<< ((40 : Int32) &&& 0x3f).toInt64)) ||| ((((xs.getD 3 0).toInt64) &&& (255 : Int64)) <<< ((32 : Int32) &&& 0x3f).toInt64)) ||| ((((xs.getD 4 0).toInt64) &&& (255 : Int64)) <<< ((24 : Int32) &&& 0x3f).toInt64)))])) t
    refine XS.aloadN X0.here hx rfl (hb hby d12_67) rfl rfl ?_
    show Steps p.tables e below (s₁.setTop (mkF m 68 #[.val (.ref a0), .val (.int (0 : Int32))] [(.ref a0), (.long ((((((((xs.getD 0 0).toInt64) &&& (255 : Int64)) <<< ((56 : Int32) &&& 0x3f).toInt64) ||| ((((xs.getD 1 0).toInt64) &&& (255 : Int64)) <<< ((48 : Int32) &&& 0x3f).toInt64)) ||| ((((xs.getD 2 0).toInt64) &&& (255 : Int64)) <<< ((40 : Int32) &&& 0x3f).toInt64)) ||| ((((xs.getD 3 0).toInt64) &&& (255 : Int64)) <<< ((32 : Int32) &&& 0x3f).toInt64)) ||| ((((xs.getD 4 0).toInt64) &&& (255 : Int64)) <<< ((24 : Int32) &&& 0x3f).toInt64)))])) t
    refine XS.iloadN X0.here hx rfl (hb hby d12_68) rfl ?_
    show Steps p.tables e below (s₁.setTop (mkF m 69 #[.val (.ref a0), .val (.int (0 : Int32))] [(.int (0 : Int32)), (.ref a0), (.long ((((((((xs.getD 0 0).toInt64) &&& (255 : Int64)) <<< ((56 : Int32) &&& 0x3f).toInt64) ||| ((((xs.getD 1 0).toInt64) &&& (255 : Int64)) <<< ((48 : Int32) &&& 0x3f).toInt64)) ||| ((((xs.getD 2 0).toInt64) &&& (255 : Int64)) <<< ((40 : Int32) &&& 0x3f).toInt64)) ||| ((((xs.getD 3 0).toInt64) &&& (255 : Int64)) <<< ((32 : Int32) &&& 0x3f).toInt64)) ||| ((((xs.getD 4 0).toInt64) &&& (255 : Int64)) <<< ((24 : Int32) &&& 0x3f).toInt64)))])) t
    refine XS.iconst X0.here hx rfl (hb hby d12_69) ?_
    show Steps p.tables e below (s₁.setTop (mkF m 70 #[.val (.ref a0), .val (.int (0 : Int32))] [(.int (5 : Int32)), (.int (0 : Int32)), (.ref a0), (.long ((((((((xs.getD 0 0).toInt64) &&& (255 : Int64)) <<< ((56 : Int32) &&& 0x3f).toInt64) ||| ((((xs.getD 1 0).toInt64) &&& (255 : Int64)) <<< ((48 : Int32) &&& 0x3f).toInt64)) ||| ((((xs.getD 2 0).toInt64) &&& (255 : Int64)) <<< ((40 : Int32) &&& 0x3f).toInt64)) ||| ((((xs.getD 3 0).toInt64) &&& (255 : Int64)) <<< ((32 : Int32) &&& 0x3f).toInt64)) ||| ((((xs.getD 4 0).toInt64) &&& (255 : Int64)) <<< ((24 : Int32) &&& 0x3f).toInt64)))])) t
    refine XS.iadd X0.here hx rfl (hb hby d12_70) rfl ?_
    exact kt
  obtain ⟨kk6, cl6, Ar6, qz6, S6, N6a, H6, G6⟩ := id (O_a0)
  have hin6 : ¬ ((5 : Int32) < 0 ∨ cl6.slots.size ≤ ((5 : Int32)).toNatClampNeg) := inb_of S6 (own_lt16 (n := 16) (by simp only [List.length_set, hlen]) (by decide) (by decide))
  have hat6 : cl6.slots[((5 : Int32)).toNatClampNeg]? = some (.int (xs.getD 5 0)) := H6.at hin6 (own_getv _ _)
  refine OGo.step (F' := s₁.setTop (mkF m 72 #[.val (.ref a0), .val (.int (0 : Int32))] [(.int (xs.getD 5 0)), (.long ((((((((xs.getD 0 0).toInt64) &&& (255 : Int64)) <<< ((56 : Int32) &&& 0x3f).toInt64) ||| ((((xs.getD 1 0).toInt64) &&& (255 : Int64)) <<< ((48 : Int32) &&& 0x3f).toInt64)) ||| ((((xs.getD 2 0).toInt64) &&& (255 : Int64)) <<< ((40 : Int32) &&& 0x3f).toInt64)) ||| ((((xs.getD 3 0).toInt64) &&& (255 : Int64)) <<< ((32 : Int32) &&& 0x3f).toInt64)) ||| ((((xs.getD 4 0).toInt64) &&& (255 : Int64)) <<< ((24 : Int32) &&& 0x3f).toInt64)))])) (fun t kt => ?_) ?_
  · show Steps p.tables e below (s₁.setTop (mkF m 71 #[.val (.ref a0), .val (.int (0 : Int32))] [(.int (5 : Int32)), (.ref a0), (.long ((((((((xs.getD 0 0).toInt64) &&& (255 : Int64)) <<< ((56 : Int32) &&& 0x3f).toInt64) ||| ((((xs.getD 1 0).toInt64) &&& (255 : Int64)) <<< ((48 : Int32) &&& 0x3f).toInt64)) ||| ((((xs.getD 2 0).toInt64) &&& (255 : Int64)) <<< ((40 : Int32) &&& 0x3f).toInt64)) ||| ((((xs.getD 3 0).toInt64) &&& (255 : Int64)) <<< ((32 : Int32) &&& 0x3f).toInt64)) ||| ((((xs.getD 4 0).toInt64) &&& (255 : Int64)) <<< ((24 : Int32) &&& 0x3f).toInt64)))])) t
    refine X0.baloadBytes hx (j := (5 : Int32)) (v := (.int (xs.getD 5 0))) (by rw [e0]; exact Ar6.1) (State.isArrayOf_alike hZ.alike Ar6.2.1) Ar6.2.2 hin6 hat6 (g := (mkF m 71 #[.val (.ref a0), .val (.int (0 : Int32))] [(.int (5 : Int32)), (.ref a0), (.long ((((((((xs.getD 0 0).toInt64) &&& (255 : Int64)) <<< ((56 : Int32) &&& 0x3f).toInt64) ||| ((((xs.getD 1 0).toInt64) &&& (255 : Int64)) <<< ((48 : Int32) &&& 0x3f).toInt64)) ||| ((((xs.getD 2 0).toInt64) &&& (255 : Int64)) <<< ((40 : Int32) &&& 0x3f).toInt64)) ||| ((((xs.getD 3 0).toInt64) &&& (255 : Int64)) <<< ((32 : Int32) &&& 0x3f).toInt64)) ||| ((((xs.getD 4 0).toInt64) &&& (255 : Int64)) <<< ((24 : Int32) &&& 0x3f).toInt64)))])) rfl rfl (hb hby d12_71) _ ?_
    exact kt
  refine OGo.step (F' := s₁.setTop (mkF m 86 #[.val (.ref a0), .val (.int (0 : Int32))] [(.int (6 : Int32)), (.ref a0), (.long (((((((((xs.getD 0 0).toInt64) &&& (255 : Int64)) <<< ((56 : Int32) &&& 0x3f).toInt64) ||| ((((xs.getD 1 0).toInt64) &&& (255 : Int64)) <<< ((48 : Int32) &&& 0x3f).toInt64)) ||| ((((xs.getD 2 0).toInt64) &&& (255 : Int64)) <<< ((40 : Int32) &&& 0x3f).toInt64)) ||| ((((xs.getD 3 0).toInt64) &&& (255 : Int64)) <<< ((32 : Int32) &&& 0x3f).toInt64)) ||| ((((xs.getD 4 0).toInt64) &&& (255 : Int64)) <<< ((24 : Int32) &&& 0x3f).toInt64)) ||| ((((xs.getD 5 0).toInt64) &&& (255 : Int64)) <<< ((16 : Int32) &&& 0x3f).toInt64)))])) (fun t kt => ?_) ?_
  · show Steps p.tables e below (s₁.setTop (mkF m 72 #[.val (.ref a0), .val (.int (0 : Int32))] [(.int (xs.getD 5 0)), (.long ((((((((xs.getD 0 0).toInt64) &&& (255 : Int64)) <<< ((56 : Int32) &&& 0x3f).toInt64) ||| ((((xs.getD 1 0).toInt64) &&& (255 : Int64)) <<< ((48 : Int32) &&& 0x3f).toInt64)) ||| ((((xs.getD 2 0).toInt64) &&& (255 : Int64)) <<< ((40 : Int32) &&& 0x3f).toInt64)) ||| ((((xs.getD 3 0).toInt64) &&& (255 : Int64)) <<< ((32 : Int32) &&& 0x3f).toInt64)) ||| ((((xs.getD 4 0).toInt64) &&& (255 : Int64)) <<< ((24 : Int32) &&& 0x3f).toInt64)))])) t
    refine XS.i2l X0.here hx rfl (hb hby d12_72) rfl ?_
    show Steps p.tables e below (s₁.setTop (mkF m 73 #[.val (.ref a0), .val (.int (0 : Int32))] [(.long ((xs.getD 5 0).toInt64)), (.long ((((((((xs.getD 0 0).toInt64) &&& (255 : Int64)) <<< ((56 : Int32) &&& 0x3f).toInt64) ||| ((((xs.getD 1 0).toInt64) &&& (255 : Int64)) <<< ((48 : Int32) &&& 0x3f).toInt64)) ||| ((((xs.getD 2 0).toInt64) &&& (255 : Int64)) <<< ((40 : Int32) &&& 0x3f).toInt64)) ||| ((((xs.getD 3 0).toInt64) &&& (255 : Int64)) <<< ((32 : Int32) &&& 0x3f).toInt64)) ||| ((((xs.getD 4 0).toInt64) &&& (255 : Int64)) <<< ((24 : Int32) &&& 0x3f).toInt64)))])) t
    refine X0.ldc2Long hx hown (mvT hZ (own_wd hw 73 rfl)) (g := (mkF m 73 #[.val (.ref a0), .val (.int (0 : Int32))] [(.long ((xs.getD 5 0).toInt64)), (.long ((((((((xs.getD 0 0).toInt64) &&& (255 : Int64)) <<< ((56 : Int32) &&& 0x3f).toInt64) ||| ((((xs.getD 1 0).toInt64) &&& (255 : Int64)) <<< ((48 : Int32) &&& 0x3f).toInt64)) ||| ((((xs.getD 2 0).toInt64) &&& (255 : Int64)) <<< ((40 : Int32) &&& 0x3f).toInt64)) ||| ((((xs.getD 3 0).toInt64) &&& (255 : Int64)) <<< ((32 : Int32) &&& 0x3f).toInt64)) ||| ((((xs.getD 4 0).toInt64) &&& (255 : Int64)) <<< ((24 : Int32) &&& 0x3f).toInt64)))])) rfl (hb hby d12_73) _ ?_
    show Steps p.tables e below (s₁.setTop (mkF m 76 #[.val (.ref a0), .val (.int (0 : Int32))] [(.long (255 : Int64)), (.long ((xs.getD 5 0).toInt64)), (.long ((((((((xs.getD 0 0).toInt64) &&& (255 : Int64)) <<< ((56 : Int32) &&& 0x3f).toInt64) ||| ((((xs.getD 1 0).toInt64) &&& (255 : Int64)) <<< ((48 : Int32) &&& 0x3f).toInt64)) ||| ((((xs.getD 2 0).toInt64) &&& (255 : Int64)) <<< ((40 : Int32) &&& 0x3f).toInt64)) ||| ((((xs.getD 3 0).toInt64) &&& (255 : Int64)) <<< ((32 : Int32) &&& 0x3f).toInt64)) ||| ((((xs.getD 4 0).toInt64) &&& (255 : Int64)) <<< ((24 : Int32) &&& 0x3f).toInt64)))])) t
    refine XS.land X0.here hx rfl (hb hby d12_76) rfl ?_
    show Steps p.tables e below (s₁.setTop (mkF m 77 #[.val (.ref a0), .val (.int (0 : Int32))] [(.long (((xs.getD 5 0).toInt64) &&& (255 : Int64))), (.long ((((((((xs.getD 0 0).toInt64) &&& (255 : Int64)) <<< ((56 : Int32) &&& 0x3f).toInt64) ||| ((((xs.getD 1 0).toInt64) &&& (255 : Int64)) <<< ((48 : Int32) &&& 0x3f).toInt64)) ||| ((((xs.getD 2 0).toInt64) &&& (255 : Int64)) <<< ((40 : Int32) &&& 0x3f).toInt64)) ||| ((((xs.getD 3 0).toInt64) &&& (255 : Int64)) <<< ((32 : Int32) &&& 0x3f).toInt64)) ||| ((((xs.getD 4 0).toInt64) &&& (255 : Int64)) <<< ((24 : Int32) &&& 0x3f).toInt64)))])) t
    refine XS.bipush X0.here hx rfl (hb hby d12_77) ?_
    show Steps p.tables e below (s₁.setTop (mkF m 79 #[.val (.ref a0), .val (.int (0 : Int32))] [(.int (16 : Int32)), (.long (((xs.getD 5 0).toInt64) &&& (255 : Int64))), (.long ((((((((xs.getD 0 0).toInt64) &&& (255 : Int64)) <<< ((56 : Int32) &&& 0x3f).toInt64) ||| ((((xs.getD 1 0).toInt64) &&& (255 : Int64)) <<< ((48 : Int32) &&& 0x3f).toInt64)) ||| ((((xs.getD 2 0).toInt64) &&& (255 : Int64)) <<< ((40 : Int32) &&& 0x3f).toInt64)) ||| ((((xs.getD 3 0).toInt64) &&& (255 : Int64)) <<< ((32 : Int32) &&& 0x3f).toInt64)) ||| ((((xs.getD 4 0).toInt64) &&& (255 : Int64)) <<< ((24 : Int32) &&& 0x3f).toInt64)))])) t
    refine XS.lshl X0.here hx rfl (hb hby d12_79) rfl ?_
    show Steps p.tables e below (s₁.setTop (mkF m 80 #[.val (.ref a0), .val (.int (0 : Int32))] [(.long ((((xs.getD 5 0).toInt64) &&& (255 : Int64)) <<< ((16 : Int32) &&& 0x3f).toInt64)), (.long ((((((((xs.getD 0 0).toInt64) &&& (255 : Int64)) <<< ((56 : Int32) &&& 0x3f).toInt64) ||| ((((xs.getD 1 0).toInt64) &&& (255 : Int64)) <<< ((48 : Int32) &&& 0x3f).toInt64)) ||| ((((xs.getD 2 0).toInt64) &&& (255 : Int64)) <<< ((40 : Int32) &&& 0x3f).toInt64)) ||| ((((xs.getD 3 0).toInt64) &&& (255 : Int64)) <<< ((32 : Int32) &&& 0x3f).toInt64)) ||| ((((xs.getD 4 0).toInt64) &&& (255 : Int64)) <<< ((24 : Int32) &&& 0x3f).toInt64)))])) t
    refine XS.lor X0.here hx rfl (hb hby d12_80) rfl ?_
    show Steps p.tables e below (s₁.setTop (mkF m 81 #[.val (.ref a0), .val (.int (0 : Int32))] [(.long (((((((((xs.getD 0 0).toInt64) &&& (255 : Int64)) <<< ((56 : Int32) &&& 0x3f).toInt64) ||| ((((xs.getD 1 0).toInt64) &&& (255 : Int64)) <<< ((48 : Int32) &&& 0x3f).toInt64)) ||| ((((xs.getD 2 0).toInt64) &&& (255 : Int64)) <<< ((40 : Int32) &&& 0x3f).toInt64)) ||| ((((xs.getD 3 0).toInt64) &&& (255 : Int64)) <<< ((32 : Int32) &&& 0x3f).toInt64)) ||| ((((xs.getD 4 0).toInt64) &&& (255 : Int64)) <<< ((24 : Int32) &&& 0x3f).toInt64)) ||| ((((xs.getD 5 0).toInt64) &&& (255 : Int64)) <<< ((16 : Int32) &&& 0x3f).toInt64)))])) t
    refine XS.aloadN X0.here hx rfl (hb hby d12_81) rfl rfl ?_
    show Steps p.tables e below (s₁.setTop (mkF m 82 #[.val (.ref a0), .val (.int (0 : Int32))] [(.ref a0), (.long (((((((((xs.getD 0 0).toInt64) &&& (255 : Int64)) <<< ((56 : Int32) &&& 0x3f).toInt64) ||| ((((xs.getD 1 0).toInt64) &&& (255 : Int64)) <<< ((48 : Int32) &&& 0x3f).toInt64)) ||| ((((xs.getD 2 0).toInt64) &&& (255 : Int64)) <<< ((40 : Int32) &&& 0x3f).toInt64)) ||| ((((xs.getD 3 0).toInt64) &&& (255 : Int64)) <<< ((32 : Int32) &&& 0x3f).toInt64)) ||| ((((xs.getD 4 0).toInt64) &&& (255 : Int64)) <<< ((24 : Int32) &&& 0x3f).toInt64)) ||| ((((xs.getD 5 0).toInt64) &&& (255 : Int64)) <<< ((16 : Int32) &&& 0x3f).toInt64)))])) t
    refine XS.iloadN X0.here hx rfl (hb hby d12_82) rfl ?_
    show Steps p.tables e below (s₁.setTop (mkF m 83 #[.val (.ref a0), .val (.int (0 : Int32))] [(.int (0 : Int32)), (.ref a0), (.long (((((((((xs.getD 0 0).toInt64) &&& (255 : Int64)) <<< ((56 : Int32) &&& 0x3f).toInt64) ||| ((((xs.getD 1 0).toInt64) &&& (255 : Int64)) <<< ((48 : Int32) &&& 0x3f).toInt64)) ||| ((((xs.getD 2 0).toInt64) &&& (255 : Int64)) <<< ((40 : Int32) &&& 0x3f).toInt64)) ||| ((((xs.getD 3 0).toInt64) &&& (255 : Int64)) <<< ((32 : Int32) &&& 0x3f).toInt64)) ||| ((((xs.getD 4 0).toInt64) &&& (255 : Int64)) <<< ((24 : Int32) &&& 0x3f).toInt64)) ||| ((((xs.getD 5 0).toInt64) &&& (255 : Int64)) <<< ((16 : Int32) &&& 0x3f).toInt64)))])) t
    refine XS.bipush X0.here hx rfl (hb hby d12_83) ?_
    show Steps p.tables e below (s₁.setTop (mkF m 85 #[.val (.ref a0), .val (.int (0 : Int32))] [(.int (6 : Int32)), (.int (0 : Int32)), (.ref a0), (.long (((((((((xs.getD 0 0).toInt64) &&& (255 : Int64)) <<< ((56 : Int32) &&& 0x3f).toInt64) ||| ((((xs.getD 1 0).toInt64) &&& (255 : Int64)) <<< ((48 : Int32) &&& 0x3f).toInt64)) ||| ((((xs.getD 2 0).toInt64) &&& (255 : Int64)) <<< ((40 : Int32) &&& 0x3f).toInt64)) ||| ((((xs.getD 3 0).toInt64) &&& (255 : Int64)) <<< ((32 : Int32) &&& 0x3f).toInt64)) ||| ((((xs.getD 4 0).toInt64) &&& (255 : Int64)) <<< ((24 : Int32) &&& 0x3f).toInt64)) ||| ((((xs.getD 5 0).toInt64) &&& (255 : Int64)) <<< ((16 : Int32) &&& 0x3f).toInt64)))])) t
    refine XS.iadd X0.here hx rfl (hb hby d12_85) rfl ?_
    exact kt
  obtain ⟨kk7, cl7, Ar7, qz7, S7, N7a, H7, G7⟩ := id (O_a0)
  have hin7 : ¬ ((6 : Int32) < 0 ∨ cl7.slots.size ≤ ((6 : Int32)).toNatClampNeg) := inb_of S7 (own_lt16 (n := 16) (by simp only [List.length_set, hlen]) (by decide) (by decide))
  have hat7 : cl7.slots[((6 : Int32)).toNatClampNeg]? = some (.int (xs.getD 6 0)) := H7.at hin7 (own_getv _ _)
  refine OGo.step (F' := s₁.setTop (mkF m 87 #[.val (.ref a0), .val (.int (0 : Int32))] [(.int (xs.getD 6 0)), (.long (((((((((xs.getD 0 0).toInt64) &&& (255 : Int64)) <<< ((56 : Int32) &&& 0x3f).toInt64) ||| ((((xs.getD 1 0).toInt64) &&& (255 : Int64)) <<< ((48 : Int32) &&& 0x3f).toInt64)) ||| ((((xs.getD 2 0).toInt64) &&& (255 : Int64)) <<< ((40 : Int32) &&& 0x3f).toInt64)) ||| ((((xs.getD 3 0).toInt64) &&& (255 : Int64)) <<< ((32 : Int32) &&& 0x3f).toInt64)) ||| ((((xs.getD 4 0).toInt64) &&& (255 : Int64)) <<< ((24 : Int32) &&& 0x3f).toInt64)) ||| ((((xs.getD 5 0).toInt64) &&& (255 : Int64)) <<< ((16 : Int32) &&& 0x3f).toInt64)))])) (fun t kt => ?_) ?_
  · show Steps p.tables e below (s₁.setTop (mkF m 86 #[.val (.ref a0), .val (.int (0 : Int32))] [(.int (6 : Int32)), (.ref a0), (.long (((((((((xs.getD 0 0).toInt64) &&& (255 : Int64)) <<< ((56 : Int32) &&& 0x3f).toInt64) ||| ((((xs.getD 1 0).toInt64) &&& (255 : Int64)) <<< ((48 : Int32) &&& 0x3f).toInt64)) ||| ((((xs.getD 2 0).toInt64) &&& (255 : Int64)) <<< ((40 : Int32) &&& 0x3f).toInt64)) ||| ((((xs.getD 3 0).toInt64) &&& (255 : Int64)) <<< ((32 : Int32) &&& 0x3f).toInt64)) ||| ((((xs.getD 4 0).toInt64) &&& (255 : Int64)) <<< ((24 : Int32) &&& 0x3f).toInt64)) ||| ((((xs.getD 5 0).toInt64) &&& (255 : Int64)) <<< ((16 : Int32) &&& 0x3f).toInt64)))])) t
    refine X0.baloadBytes hx (j := (6 : Int32)) (v := (.int (xs.getD 6 0))) (by rw [e0]; exact Ar7.1) (State.isArrayOf_alike hZ.alike Ar7.2.1) Ar7.2.2 hin7 hat7 (g := (mkF m 86 #[.val (.ref a0), .val (.int (0 : Int32))] [(.int (6 : Int32)), (.ref a0), (.long (((((((((xs.getD 0 0).toInt64) &&& (255 : Int64)) <<< ((56 : Int32) &&& 0x3f).toInt64) ||| ((((xs.getD 1 0).toInt64) &&& (255 : Int64)) <<< ((48 : Int32) &&& 0x3f).toInt64)) ||| ((((xs.getD 2 0).toInt64) &&& (255 : Int64)) <<< ((40 : Int32) &&& 0x3f).toInt64)) ||| ((((xs.getD 3 0).toInt64) &&& (255 : Int64)) <<< ((32 : Int32) &&& 0x3f).toInt64)) ||| ((((xs.getD 4 0).toInt64) &&& (255 : Int64)) <<< ((24 : Int32) &&& 0x3f).toInt64)) ||| ((((xs.getD 5 0).toInt64) &&& (255 : Int64)) <<< ((16 : Int32) &&& 0x3f).toInt64)))])) rfl rfl (hb hby d12_86) _ ?_
    exact kt
  refine OGo.step (F' := s₁.setTop (mkF m 101 #[.val (.ref a0), .val (.int (0 : Int32))] [(.int (7 : Int32)), (.ref a0), (.long ((((((((((xs.getD 0 0).toInt64) &&& (255 : Int64)) <<< ((56 : Int32) &&& 0x3f).toInt64) ||| ((((xs.getD 1 0).toInt64) &&& (255 : Int64)) <<< ((48 : Int32) &&& 0x3f).toInt64)) ||| ((((xs.getD 2 0).toInt64) &&& (255 : Int64)) <<< ((40 : Int32) &&& 0x3f).toInt64)) ||| ((((xs.getD 3 0).toInt64) &&& (255 : Int64)) <<< ((32 : Int32) &&& 0x3f).toInt64)) ||| ((((xs.getD 4 0).toInt64) &&& (255 : Int64)) <<< ((24 : Int32) &&& 0x3f).toInt64)) ||| ((((xs.getD 5 0).toInt64) &&& (255 : Int64)) <<< ((16 : Int32) &&& 0x3f).toInt64)) ||| ((((xs.getD 6 0).toInt64) &&& (255 : Int64)) <<< ((8 : Int32) &&& 0x3f).toInt64)))])) (fun t kt => ?_) ?_
  · show Steps p.tables e below (s₁.setTop (mkF m 87 #[.val (.ref a0), .val (.int (0 : Int32))] [(.int (xs.getD 6 0)), (.long (((((((((xs.getD 0 0).toInt64) &&& (255 : Int64)) <<< ((56 : Int32) &&& 0x3f).toInt64) ||| ((((xs.getD 1 0).toInt64) &&& (255 : Int64)) <<< ((48 : Int32) &&& 0x3f).toInt64)) ||| ((((xs.getD 2 0).toInt64) &&& (255 : Int64)) <<< ((40 : Int32) &&& 0x3f).toInt64)) ||| ((((xs.getD 3 0).toInt64) &&& (255 : Int64)) <<< ((32 : Int32) &&& 0x3f).toInt64)) ||| ((((xs.getD 4 0).toInt64) &&& (255 : Int64)) <<< ((24 : Int32) &&& 0x3f).toInt64)) ||| ((((xs.getD 5 0).toInt64) &&& (255 : Int64)) <<< ((16 : Int32) &&& 0x3f).toInt64)))])) t
    refine XS.i2l X0.here hx rfl (hb hby d12_87) rfl ?_
    show Steps p.tables e below (s₁.setTop (mkF m 88 #[.val (.ref a0), .val (.int (0 : Int32))] [(.long ((xs.getD 6 0).toInt64)), (.long (((((((((xs.getD 0 0).toInt64) &&& (255 : Int64)) <<< ((56 : Int32) &&& 0x3f).toInt64) ||| ((((xs.getD 1 0).toInt64) &&& (255 : Int64)) <<< ((48 : Int32) &&& 0x3f).toInt64)) ||| ((((xs.getD 2 0).toInt64) &&& (255 : Int64)) <<< ((40 : Int32) &&& 0x3f).toInt64)) ||| ((((xs.getD 3 0).toInt64) &&& (255 : Int64)) <<< ((32 : Int32) &&& 0x3f).toInt64)) ||| ((((xs.getD 4 0).toInt64) &&& (255 : Int64)) <<< ((24 : Int32) &&& 0x3f).toInt64)) ||| ((((xs.getD 5 0).toInt64) &&& (255 : Int64)) <<< ((16 : Int32) &&& 0x3f).toInt64)))])) t
    refine X0.ldc2Long hx hown (mvT hZ (own_wd hw 73 rfl)) (g := (mkF m 88 #[.val (.ref a0), .val (.int (0 : Int32))] [(.long ((xs.getD 6 0).toInt64)), (.long (((((((((xs.getD 0 0).toInt64) &&& (255 : Int64)) <<< ((56 : Int32) &&& 0x3f).toInt64) ||| ((((xs.getD 1 0).toInt64) &&& (255 : Int64)) <<< ((48 : Int32) &&& 0x3f).toInt64)) ||| ((((xs.getD 2 0).toInt64) &&& (255 : Int64)) <<< ((40 : Int32) &&& 0x3f).toInt64)) ||| ((((xs.getD 3 0).toInt64) &&& (255 : Int64)) <<< ((32 : Int32) &&& 0x3f).toInt64)) ||| ((((xs.getD 4 0).toInt64) &&& (255 : Int64)) <<< ((24 : Int32) &&& 0x3f).toInt64)) ||| ((((xs.getD 5 0).toInt64) &&& (255 : Int64)) <<< ((16 : Int32) &&& 0x3f).toInt64)))])) rfl (hb hby d12_88) _ ?_
    show Steps p.tables e below (s₁.setTop (mkF m 91 #[.val (.ref a0), .val (.int (0 : Int32))] [(.long (255 : Int64)), (.long ((xs.getD 6 0).toInt64)), (.long (((((((((xs.getD 0 0).toInt64) &&& (255 : Int64)) <<< ((56 : Int32) &&& 0x3f).toInt64) ||| ((((xs.getD 1 0).toInt64) &&& (255 : Int64)) <<< ((48 : Int32) &&& 0x3f).toInt64)) ||| ((((xs.getD 2 0).toInt64) &&& (255 : Int64)) <<< ((40 : Int32) &&& 0x3f).toInt64)) ||| ((((xs.getD 3 0).toInt64) &&& (255 : Int64)) <<< ((32 : Int32) &&& 0x3f).toInt64)) ||| ((((xs.getD 4 0).toInt64) &&& (255 : Int64)) <<< ((24 : Int32) &&& 0x3f).toInt64)) ||| ((((xs.getD 5 0).toInt64) &&& (255 : Int64)) <<< ((16 : Int32) &&& 0x3f).toInt64)))])) t
    refine XS.land X0.here hx rfl (hb hby d12_91) rfl ?_
    show Steps p.tables e below (s₁.setTop (mkF m 92 #[.val (.ref a0), .val (.int (0 : Int32))] [(.long (((xs.getD 6 0).toInt64) &&& (255 : Int64))), (.long (((((((((xs.getD 0 0).toInt64) &&& (255 : Int64)) <<< ((56 : Int32) &&& 0x3f).toInt64) ||| ((((xs.getD 1 0).toInt64) &&& (255 : Int64)) <<< ((48 : Int32) &&& 0x3f).toInt64)) ||| ((((xs.getD 2 0).toInt64) &&& (255 : Int64)) <<< ((40 : Int32) &&& 0x3f).toInt64)) ||| ((((xs.getD 3 0).toInt64) &&& (255 : Int64)) <<< ((32 : Int32) &&& 0x3f).toInt64)) ||| ((((xs.getD 4 0).toInt64) &&& (255 : Int64)) <<< ((24 : Int32) &&& 0x3f).toInt64)) ||| ((((xs.getD 5 0).toInt64) &&& (255 : Int64)) <<< ((16 : Int32) &&& 0x3f).toInt64)))])) t
    refine XS.bipush X0.here hx rfl (hb hby d12_92) ?_
    show Steps p.tables e below (s₁.setTop (mkF m 94 #[.val (.ref a0), .val (.int (0 : Int32))] [(.int (8 : Int32)), (.long (((xs.getD 6 0).toInt64) &&& (255 : Int64))), (.long (((((((((xs.getD 0 0).toInt64) &&& (255 : Int64)) <<< ((56 : Int32) &&& 0x3f).toInt64) ||| ((((xs.getD 1 0).toInt64) &&& (255 : Int64)) <<< ((48 : Int32) &&& 0x3f).toInt64)) ||| ((((xs.getD 2 0).toInt64) &&& (255 : Int64)) <<< ((40 : Int32) &&& 0x3f).toInt64)) ||| ((((xs.getD 3 0).toInt64) &&& (255 : Int64)) <<< ((32 : Int32) &&& 0x3f).toInt64)) ||| ((((xs.getD 4 0).toInt64) &&& (255 : Int64)) <<< ((24 : Int32) &&& 0x3f).toInt64)) ||| ((((xs.getD 5 0).toInt64) &&& (255 : Int64)) <<< ((16 : Int32) &&& 0x3f).toInt64)))])) t
    refine XS.lshl X0.here hx rfl (hb hby d12_94) rfl ?_
    show Steps p.tables e below (s₁.setTop (mkF m 95 #[.val (.ref a0), .val (.int (0 : Int32))] [(.long ((((xs.getD 6 0).toInt64) &&& (255 : Int64)) <<< ((8 : Int32) &&& 0x3f).toInt64)), (.long (((((((((xs.getD 0 0).toInt64) &&& (255 : Int64)) <<< ((56 : Int32) &&& 0x3f).toInt64) ||| ((((xs.getD 1 0).toInt64) &&& (255 : Int64)) <<< ((48 : Int32) &&& 0x3f).toInt64)) ||| ((((xs.getD 2 0).toInt64) &&& (255 : Int64)) <<< ((40 : Int32) &&& 0x3f).toInt64)) ||| ((((xs.getD 3 0).toInt64) &&& (255 : Int64)) <<< ((32 : Int32) &&& 0x3f).toInt64)) ||| ((((xs.getD 4 0).toInt64) &&& (255 : Int64)) <<< ((24 : Int32) &&& 0x3f).toInt64)) ||| ((((xs.getD 5 0).toInt64) &&& (255 : Int64)) <<< ((16 : Int32) &&& 0x3f).toInt64)))])) t
    refine XS.lor X0.here hx rfl (hb hby d12_95) rfl ?_
    show Steps p.tables e below (s₁.setTop (mkF m 96 #[.val (.ref a0), .val (.int (0 : Int32))] [(.long ((((((((((xs.getD 0 0).toInt64) &&& (255 : Int64)) <<< ((56 : Int32) &&& 0x3f).toInt64) ||| ((((xs.getD 1 0).toInt64) &&& (255 : Int64)) <<< ((48 : Int32) &&& 0x3f).toInt64)) ||| ((((xs.getD 2 0).toInt64) &&& (255 : Int64)) <<< ((40 : Int32) &&& 0x3f).toInt64)) ||| ((((xs.getD 3 0).toInt64) &&& (255 : Int64)) <<< ((32 : Int32) &&& 0x3f).toInt64)) ||| ((((xs.getD 4 0).toInt64) &&& (255 : Int64)) <<< ((24 : Int32) &&& 0x3f).toInt64)) ||| ((((xs.getD 5 0).toInt64) &&& (255 : Int64)) <<< ((16 : Int32) &&& 0x3f).toInt64)) ||| ((((xs.getD 6 0).toInt64) &&& (255 : Int64)) <<< ((8 : Int32) &&& 0x3f).toInt64)))])) t
    refine XS.aloadN X0.here hx rfl (hb hby d12_96) rfl rfl ?_
    show Steps p.tables e below (s₁.setTop (mkF m 97 #[.val (.ref a0), .val (.int (0 : Int32))] [(.ref a0), (.long ((((((((((xs.getD 0 0).toInt64) &&& (255 : Int64)) <<< ((56 : Int32) &&& 0x3f).toInt64) ||| ((((xs.getD 1 0).toInt64) &&& (255 : Int64)) <<< ((48 : Int32) &&& 0x3f).toInt64)) ||| ((((xs.getD 2 0).toInt64) &&& (255 : Int64)) <<< ((40 : Int32) &&& 0x3f).toInt64)) ||| ((((xs.getD 3 0).toInt64) &&& (255 : Int64)) <<< ((32 : Int32) &&& 0x3f).toInt64)) ||| ((((xs.getD 4 0).toInt64) &&& (255 : Int64)) <<< ((24 : Int32) &&& 0x3f).toInt64)) ||| ((((xs.getD 5 0).toInt64) &&& (255 : Int64)) <<< ((16 : Int32) &&& 0x3f).toInt64)) ||| ((((xs.getD 6 0).toInt64) &&& (255 : Int64)) <<< ((8 : Int32) &&& 0x3f).toInt64)))])) t
    refine XS.iloadN X0.here hx rfl (hb hby d12_97) rfl ?_
    show Steps p.tables e below (s₁.setTop (mkF m 98 #[.val (.ref a0), .val (.int (0 : Int32))] [(.int (0 : Int32)), (.ref a0), (.long ((((((((((xs.getD 0 0).toInt64) &&& (255 : Int64)) <<< ((56 : Int32) &&& 0x3f).toInt64) ||| ((((xs.getD 1 0).toInt64) &&& (255 : Int64)) <<< ((48 : Int32) &&& 0x3f).toInt64)) ||| ((((xs.getD 2 0).toInt64) &&& (255 : Int64)) <<< ((40 : Int32) &&& 0x3f).toInt64)) ||| ((((xs.getD 3 0).toInt64) &&& (255 : Int64)) <<< ((32 : Int32) &&& 0x3f).toInt64)) ||| ((((xs.getD 4 0).toInt64) &&& (255 : Int64)) <<< ((24 : Int32) &&& 0x3f).toInt64)) ||| ((((xs.getD 5 0).toInt64) &&& (255 : Int64)) <<< ((16 : Int32) &&& 0x3f).toInt64)) ||| ((((xs.getD 6 0).toInt64) &&& (255 : Int64)) <<< ((8 : Int32) &&& 0x3f).toInt64)))])) t
    refine XS.bipush X0.here hx rfl (hb hby d12_98) ?_
    show Steps p.tables e below (s₁.setTop (mkF m 100 #[.val (.ref a0), .val (.int (0 : Int32))] [(.int (7 : Int32)), (.int (0 : Int32)), (.ref a0), (.long ((((((((((xs.getD 0 0).toInt64) &&& (255 : Int64)) <<< ((56 : Int32) &&& 0x3f).toInt64) ||| ((((xs.getD 1 0).toInt64) &&& (255 : Int64)) <<< ((48 : Int32) &&& 0x3f).toInt64)) ||| ((((xs.getD 2 0).toInt64) &&& (255 : Int64)) <<< ((40 : Int32) &&& 0x3f).toInt64)) ||| ((((xs.getD 3 0).toInt64) &&& (255 : Int64)) <<< ((32 : Int32) &&& 0x3f).toInt64)) ||| ((((xs.getD 4 0).toInt64) &&& (255 : Int64)) <<< ((24 : Int32) &&& 0x3f).toInt64)) ||| ((((xs.getD 5 0).toInt64) &&& (255 : Int64)) <<< ((16 : Int32) &&& 0x3f).toInt64)) ||| ((((xs.getD 6 0).toInt64) &&& (255 : Int64)) <<< ((8 : Int32) &&& 0x3f).toInt64)))])) t
    refine XS.iadd X0.here hx rfl (hb hby d12_100) rfl ?_
    exact kt
  obtain ⟨kk8, cl8, Ar8, qz8, S8, N8a, H8, G8⟩ := id (O_a0)
  have hin8 : ¬ ((7 : Int32) < 0 ∨ cl8.slots.size ≤ ((7 : Int32)).toNatClampNeg) := inb_of S8 (own_lt16 (n := 16) (by simp only [List.length_set, hlen]) (by decide) (by decide))
  have hat8 : cl8.slots[((7 : Int32)).toNatClampNeg]? = some (.int (xs.getD 7 0)) := H8.at hin8 (own_getv _ _)
  refine OGo.step (F' := s₁.setTop (mkF m 102 #[.val (.ref a0), .val (.int (0 : Int32))] [(.int (xs.getD 7 0)), (.long ((((((((((xs.getD 0 0).toInt64) &&& (255 : Int64)) <<< ((56 : Int32) &&& 0x3f).toInt64) ||| ((((xs.getD 1 0).toInt64) &&& (255 : Int64)) <<< ((48 : Int32) &&& 0x3f).toInt64)) ||| ((((xs.getD 2 0).toInt64) &&& (255 : Int64)) <<< ((40 : Int32) &&& 0x3f).toInt64)) ||| ((((xs.getD 3 0).toInt64) &&& (255 : Int64)) <<< ((32 : Int32) &&& 0x3f).toInt64)) ||| ((((xs.getD 4 0).toInt64) &&& (255 : Int64)) <<< ((24 : Int32) &&& 0x3f).toInt64)) ||| ((((xs.getD 5 0).toInt64) &&& (255 : Int64)) <<< ((16 : Int32) &&& 0x3f).toInt64)) ||| ((((xs.getD 6 0).toInt64) &&& (255 : Int64)) <<< ((8 : Int32) &&& 0x3f).toInt64)))])) (fun t kt => ?_) ?_
  · show Steps p.tables e below (s₁.setTop (mkF m 101 #[.val (.ref a0), .val (.int (0 : Int32))] [(.int (7 : Int32)), (.ref a0), (.long ((((((((((xs.getD 0 0).toInt64) &&& (255 : Int64)) <<< ((56 : Int32) &&& 0x3f).toInt64) ||| ((((xs.getD 1 0).toInt64) &&& (255 : Int64)) <<< ((48 : Int32) &&& 0x3f).toInt64)) ||| ((((xs.getD 2 0).toInt64) &&& (255 : Int64)) <<< ((40 : Int32) &&& 0x3f).toInt64)) ||| ((((xs.getD 3 0).toInt64) &&& (255 : Int64)) <<< ((32 : Int32) &&& 0x3f).toInt64)) ||| ((((xs.getD 4 0).toInt64) &&& (255 : Int64)) <<< ((24 : Int32) &&& 0x3f).toInt64)) ||| ((((xs.getD 5 0).toInt64) &&& (255 : Int64)) <<< ((16 : Int32) &&& 0x3f).toInt64)) ||| ((((xs.getD 6 0).toInt64) &&& (255 : Int64)) <<< ((8 : Int32) &&& 0x3f).toInt64)))])) t
    refine X0.baloadBytes hx (j := (7 : Int32)) (v := (.int (xs.getD 7 0))) (by rw [e0]; exact Ar8.1) (State.isArrayOf_alike hZ.alike Ar8.2.1) Ar8.2.2 hin8 hat8 (g := (mkF m 101 #[.val (.ref a0), .val (.int (0 : Int32))] [(.int (7 : Int32)), (.ref a0), (.long ((((((((((xs.getD 0 0).toInt64) &&& (255 : Int64)) <<< ((56 : Int32) &&& 0x3f).toInt64) ||| ((((xs.getD 1 0).toInt64) &&& (255 : Int64)) <<< ((48 : Int32) &&& 0x3f).toInt64)) ||| ((((xs.getD 2 0).toInt64) &&& (255 : Int64)) <<< ((40 : Int32) &&& 0x3f).toInt64)) ||| ((((xs.getD 3 0).toInt64) &&& (255 : Int64)) <<< ((32 : Int32) &&& 0x3f).toInt64)) ||| ((((xs.getD 4 0).toInt64) &&& (255 : Int64)) <<< ((24 : Int32) &&& 0x3f).toInt64)) ||| ((((xs.getD 5 0).toInt64) &&& (255 : Int64)) <<< ((16 : Int32) &&& 0x3f).toInt64)) ||| ((((xs.getD 6 0).toInt64) &&& (255 : Int64)) <<< ((8 : Int32) &&& 0x3f).toInt64)))])) rfl rfl (hb hby d12_101) _ ?_
    exact kt
  refine OGo.step (F' := s₁.setTop (mkF m 108 #[.val (.ref a0), .val (.int (0 : Int32))] [(.long (((((((((((xs.getD 0 0).toInt64) &&& (255 : Int64)) <<< ((56 : Int32) &&& 0x3f).toInt64) ||| ((((xs.getD 1 0).toInt64) &&& (255 : Int64)) <<< ((48 : Int32) &&& 0x3f).toInt64)) ||| ((((xs.getD 2 0).toInt64) &&& (255 : Int64)) <<< ((40 : Int32) &&& 0x3f).toInt64)) ||| ((((xs.getD 3 0).toInt64) &&& (255 : Int64)) <<< ((32 : Int32) &&& 0x3f).toInt64)) ||| ((((xs.getD 4 0).toInt64) &&& (255 : Int64)) <<< ((24 : Int32) &&& 0x3f).toInt64)) ||| ((((xs.getD 5 0).toInt64) &&& (255 : Int64)) <<< ((16 : Int32) &&& 0x3f).toInt64)) ||| ((((xs.getD 6 0).toInt64) &&& (255 : Int64)) <<< ((8 : Int32) &&& 0x3f).toInt64)) ||| (((xs.getD 7 0).toInt64) &&& (255 : Int64))))])) (fun t kt => ?_) ?_
  · show Steps p.tables e below (s₁.setTop (mkF m 102 #[.val (.ref a0), .val (.int (0 : Int32))] [(.int (xs.getD 7 0)), (.long ((((((((((xs.getD 0 0).toInt64) &&& (255 : Int64)) <<< ((56 : Int32) &&& 0x3f).toInt64) ||| ((((xs.getD 1 0).toInt64) &&& (255 : Int64)) <<< ((48 : Int32) &&& 0x3f).toInt64)) ||| ((((xs.getD 2 0).toInt64) &&& (255 : Int64)) <<< ((40 : Int32) &&& 0x3f).toInt64)) ||| ((((xs.getD 3 0).toInt64) &&& (255 : Int64)) <<< ((32 : Int32) &&& 0x3f).toInt64)) ||| ((((xs.getD 4 0).toInt64) &&& (255 : Int64)) <<< ((24 : Int32) &&& 0x3f).toInt64)) ||| ((((xs.getD 5 0).toInt64) &&& (255 : Int64)) <<< ((16 : Int32) &&& 0x3f).toInt64)) ||| ((((xs.getD 6 0).toInt64) &&& (255 : Int64)) <<< ((8 : Int32) &&& 0x3f).toInt64)))])) t
    refine XS.i2l X0.here hx rfl (hb hby d12_102) rfl ?_
    show Steps p.tables e below (s₁.setTop (mkF m 103 #[.val (.ref a0), .val (.int (0 : Int32))] [(.long ((xs.getD 7 0).toInt64)), (.long ((((((((((xs.getD 0 0).toInt64) &&& (255 : Int64)) <<< ((56 : Int32) &&& 0x3f).toInt64) ||| ((((xs.getD 1 0).toInt64) &&& (255 : Int64)) <<< ((48 : Int32) &&& 0x3f).toInt64)) ||| ((((xs.getD 2 0).toInt64) &&& (255 : Int64)) <<< ((40 : Int32) &&& 0x3f).toInt64)) ||| ((((xs.getD 3 0).toInt64) &&& (255 : Int64)) <<< ((32 : Int32) &&& 0x3f).toInt64)) ||| ((((xs.getD 4 0).toInt64) &&& (255 : Int64)) <<< ((24 : Int32) &&& 0x3f).toInt64)) ||| ((((xs.getD 5 0).toInt64) &&& (255 : Int64)) <<< ((16 : Int32) &&& 0x3f).toInt64)) ||| ((((xs.getD 6 0).toInt64) &&& (255 : Int64)) <<< ((8 : Int32) &&& 0x3f).toInt64)))])) t
    refine X0.ldc2Long hx hown (mvT hZ (own_wd hw 73 rfl)) (g := (mkF m 103 #[.val (.ref a0), .val (.int (0 : Int32))] [(.long ((xs.getD 7 0).toInt64)), (.long ((((((((((xs.getD 0 0).toInt64) &&& (255 : Int64)) <<< ((56 : Int32) &&& 0x3f).toInt64) ||| ((((xs.getD 1 0).toInt64) &&& (255 : Int64)) <<< ((48 : Int32) &&& 0x3f).toInt64)) ||| ((((xs.getD 2 0).toInt64) &&& (255 : Int64)) <<< ((40 : Int32) &&& 0x3f).toInt64)) ||| ((((xs.getD 3 0).toInt64) &&& (255 : Int64)) <<< ((32 : Int32) &&& 0x3f).toInt64)) ||| ((((xs.getD 4 0).toInt64) &&& (255 : Int64)) <<< ((24 : Int32) &&& 0x3f).toInt64)) ||| ((((xs.getD 5 0).toInt64) &&& (255 : Int64)) <<< ((16 : Int32) &&& 0x3f).toInt64)) ||| ((((xs.getD 6 0).toInt64) &&& (255 : Int64)) <<< ((8 : Int32) &&& 0x3f).toInt64)))])) rfl (hb hby d12_103) _ ?_
    show Steps p.tables e below (s₁.setTop (mkF m 106 #[.val (.ref a0), .val (.int (0 : Int32))] [(.long (255 : Int64)), (.long ((xs.getD 7 0).toInt64)), (.long ((((((((((xs.getD 0 0).toInt64) &&& (255 : Int64)) <<< ((56 : Int32) &&& 0x3f).toInt64) ||| ((((xs.getD 1 0).toInt64) &&& (255 : Int64)) <<< ((48 : Int32) &&& 0x3f).toInt64)) ||| ((((xs.getD 2 0).toInt64) &&& (255 : Int64)) <<< ((40 : Int32) &&& 0x3f).toInt64)) ||| ((((xs.getD 3 0).toInt64) &&& (255 : Int64)) <<< ((32 : Int32) &&& 0x3f).toInt64)) ||| ((((xs.getD 4 0).toInt64) &&& (255 : Int64)) <<< ((24 : Int32) &&& 0x3f).toInt64)) ||| ((((xs.getD 5 0).toInt64) &&& (255 : Int64)) <<< ((16 : Int32) &&& 0x3f).toInt64)) ||| ((((xs.getD 6 0).toInt64) &&& (255 : Int64)) <<< ((8 : Int32) &&& 0x3f).toInt64)))])) t
    refine XS.land X0.here hx rfl (hb hby d12_106) rfl ?_
    show Steps p.tables e below (s₁.setTop (mkF m 107 #[.val (.ref a0), .val (.int (0 : Int32))] [(.long (((xs.getD 7 0).toInt64) &&& (255 : Int64))), (.long ((((((((((xs.getD 0 0).toInt64) &&& (255 : Int64)) <<< ((56 : Int32) &&& 0x3f).toInt64) ||| ((((xs.getD 1 0).toInt64) &&& (255 : Int64)) <<< ((48 : Int32) &&& 0x3f).toInt64)) ||| ((((xs.getD 2 0).toInt64) &&& (255 : Int64)) <<< ((40 : Int32) &&& 0x3f).toInt64)) ||| ((((xs.getD 3 0).toInt64) &&& (255 : Int64)) <<< ((32 : Int32) &&& 0x3f).toInt64)) ||| ((((xs.getD 4 0).toInt64) &&& (255 : Int64)) <<< ((24 : Int32) &&& 0x3f).toInt64)) ||| ((((xs.getD 5 0).toInt64) &&& (255 : Int64)) <<< ((16 : Int32) &&& 0x3f).toInt64)) ||| ((((xs.getD 6 0).toInt64) &&& (255 : Int64)) <<< ((8 : Int32) &&& 0x3f).toInt64)))])) t
    refine XS.lor X0.here hx rfl (hb hby d12_107) rfl ?_
    exact kt
  refine OGo.retJ X0 hx hlk hret (hb hby d12_108) ?_ (by decide) (by decide)
  exact ⟨(by rw [f12_0]), N0, e0⟩
/-! body 11: com/example/veiled_alerts/veiledalerts/model/NetworkContainingPinLaw.put8:([BIJ)V -/
theorem ef_11_8 (m : MethodId) (x0 : Addr) (x2 : Int64) : entryFrame m #[(.ref x0), (.int (8 : Int32)), (.long x2)] 4 = mkF m 0 #[.val (.ref x0), .val (.int (8 : Int32)), .val (.long x2), .second] [] := by first | (simp [entryFrame, mkF, argsToLocals, Value.category]; done) | rfl
def Q11_8 (Z : State) (a0 : Addr) (q2 : Int64) (xs : List Int32) (h0 : Heap) (n0 : Nat) (v : Option Value) (h : Heap) (L : List Loc) : Prop := v = none ∧ Fr n0 L ∧ Keep h0 h [a0] ∧ Exa Z h a0 "[B" ∧ OBs Z h a0 ((((((((xs.set 8 (own_v0 q2)).set 9 (own_v1 q2)).set 10 (own_v2 q2)).set 11 (own_v3 q2)).set 12 (own_v4 q2)).set 13 (own_v5 q2)).set 14 (own_v6 q2)).set 15 (own_v7 q2))
set_option maxRecDepth 65536 in
set_option maxHeartbeats 40000000 in
theorem rm11_8 (l : Launch) (Z : State) (az : Array Value) (hw : ∀ d ∈ tables_1, d.before az Z = true) (ws : List Jvm.Cond) (a0 : Addr) (q2 : Int64) (xs : List Int32) (h0 : Heap) (n0 : Nat) (Z0 : n0 ≤ h0.size) (E_a0 : Exa Z h0 a0 "[B") (O_a0 : OBs Z h0 a0 xs) (hlen : xs.length = 16) (gn_a0 : n0 ≤ a0) :
    OCtr l Z (⟨"com/example/veiled_alerts/veiledalerts/model/NetworkContainingPinLaw", "put8", "([BIJ)V"⟩ : MethodName) method_3_code 4 none ws ({ frames := 0, cells := 0, slots := 0, locals := 0 } : Room) #[(.ref a0), (.int (8 : Int32)), (.long q2)] h0 (Q11_8 Z a0 q2 xs h0 n0) := by
  refine OCtr.of (plainFor_of_name pn_11) ?_
  intro p e s m below meth c s₁ X0 hx hlk hZ hown0 hnm hby hml0 hret e0
  have hown : s.vm.findClass "com/example/veiled_alerts/veiledalerts/model/NetworkContainingPinLaw" = some m.cls := hown0
  have hml : c.maxLocals = 4 := hml0
  have N0 := Fr.nil n0
  refine OGo.step (fun t k => castTop (ef_11_8 m a0 q2) k) ?_
  refine OGo.step (F' := s₁.setTop (mkF m 8 #[.val (.ref a0), .val (.int (8 : Int32)), .val (.long q2), .second] [(.int ((((q2.toUInt64 >>> ((56 : Int32) &&& 0x3f).toInt64.toUInt64).toInt64).toInt32).toInt8.toInt32)), (.int (8 : Int32)), (.ref a0)])) (fun t kt => ?_) ?_
  · show Steps p.tables e below (s₁.setTop (mkF m 0 #[.val (.ref a0), .val (.int (8 : Int32)), .val (.long q2), .second] [])) t
    refine XS.aloadN X0.here hx rfl (hb hby d11_0) rfl rfl ?_
    show Steps p.tables e below (s₁.setTop (mkF m 1 #[.val (.ref a0), .val (.int (8 : Int32)), .val (.long q2), .second] [(.ref a0)])) t
    refine XS.iloadN X0.here hx rfl (hb hby d11_1) rfl ?_
    show Steps p.tables e below (s₁.setTop (mkF m 2 #[.val (.ref a0), .val (.int (8 : Int32)), .val (.long q2), .second] [(.int (8 : Int32)), (.ref a0)])) t
    refine XS.lloadN X0.here hx rfl (hb hby d11_2) rfl ?_
    show Steps p.tables e below (s₁.setTop (mkF m 3 #[.val (.ref a0), .val (.int (8 : Int32)), .val (.long q2), .second] [(.long q2), (.int (8 : Int32)), (.ref a0)])) t
    refine XS.bipush X0.here hx rfl (hb hby d11_3) ?_
    show Steps p.tables e below (s₁.setTop (mkF m 5 #[.val (.ref a0), .val (.int (8 : Int32)), .val (.long q2), .second] [(.int (56 : Int32)), (.long q2), (.int (8 : Int32)), (.ref a0)])) t
    refine XS.lushr X0.here hx rfl (hb hby d11_5) rfl ?_
    show Steps p.tables e below (s₁.setTop (mkF m 6 #[.val (.ref a0), .val (.int (8 : Int32)), .val (.long q2), .second] [(.long ((q2.toUInt64 >>> ((56 : Int32) &&& 0x3f).toInt64.toUInt64).toInt64)), (.int (8 : Int32)), (.ref a0)])) t
    refine XS.l2i X0.here hx rfl (hb hby d11_6) rfl ?_
    show Steps p.tables e below (s₁.setTop (mkF m 7 #[.val (.ref a0), .val (.int (8 : Int32)), .val (.long q2), .second] [(.int (((q2.toUInt64 >>> ((56 : Int32) &&& 0x3f).toInt64.toUInt64).toInt64).toInt32)), (.int (8 : Int32)), (.ref a0)])) t
    refine XS.i2b X0.here hx rfl (hb hby d11_7) rfl ?_
    exact kt
  obtain ⟨kk1, cl1, Ar1, qz1, S1, N1a, H1, G1⟩ := id (O_a0)
  have hin1 : ¬ ((8 : Int32) < 0 ∨ cl1.slots.size ≤ ((8 : Int32)).toNatClampNeg) := inb_of S1 (own_lt16 (n := 16) (by simp only [List.length_set, hlen]) (by decide) (by decide))
  obtain ⟨T1, h1, X1, e1, W1, st1⟩ := stB X0 hx hZ e0 Ar1 (j := (8 : Int32)) hin1 (g := (mkF m 8 #[.val (.ref a0), .val (.int (8 : Int32)), .val (.long q2), .second] [(.int ((((q2.toUInt64 >>> ((56 : Int32) &&& 0x3f).toInt64.toUInt64).toInt64).toInt32).toInt8.toInt32)), (.int (8 : Int32)), (.ref a0)])) rfl rfl (hb hby d11_8)
  have O1 : OBs Z h1 a0 (xs.set 8 (own_v0 q2)) := OBs.set O_a0 W1 (fits_nar_byte _) 8 rfl (by rw [show xs.length = 16 from (by simp only [List.length_set, hlen])]; decide)
  have KC1 : Keep h0 h1 [a0] := (Keep.refl h0 [a0]).wr W1 (Or.inl (List.mem_of_getElem? (i := 0) rfl))
  have N1 := Fr.snoc X1 N0 gn_a0
  refine OGo.step st1 ?_
  show OGo _ _ _ _ _ _ _ (T1.setTop (mkF m 9 #[.val (.ref a0), .val (.int (8 : Int32)), .val (.long q2), .second] []))
  refine OGo.step (F' := T1.setTop (mkF m 19 #[.val (.ref a0), .val (.int (8 : Int32)), .val (.long q2), .second] [(.int ((((q2.toUInt64 >>> ((48 : Int32) &&& 0x3f).toInt64.toUInt64).toInt64).toInt32).toInt8.toInt32)), (.int (9 : Int32)), (.ref a0)])) (fun t kt => ?_) ?_
  · show Steps p.tables e below (T1.setTop (mkF m 9 #[.val (.ref a0), .val (.int (8 : Int32)), .val (.long q2), .second] [])) t
    refine XS.aloadN X1.here hx rfl (hb hby d11_9) rfl rfl ?_
    show Steps p.tables e below (T1.setTop (mkF m 10 #[.val (.ref a0), .val (.int (8 : Int32)), .val (.long q2), .second] [(.ref a0)])) t
    refine XS.iloadN X1.here hx rfl (hb hby d11_10) rfl ?_
    show Steps p.tables e below (T1.setTop (mkF m 11 #[.val (.ref a0), .val (.int (8 : Int32)), .val (.long q2), .second] [(.int (8 : Int32)), (.ref a0)])) t
    refine XS.iconst X1.here hx rfl (hb hby d11_11) ?_
    show Steps p.tables e below (T1.setTop (mkF m 12 #[.val (.ref a0), .val (.int (8 : Int32)), .val (.long q2), .second] [(.int (1 : Int32)), (.int (8 : Int32)), (.ref a0)])) t
    refine XS.iadd X1.here hx rfl (hb hby d11_12) rfl ?_
    show Steps p.tables e below (T1.setTop (mkF m 13 #[.val (.ref a0), .val (.int (8 : Int32)), .val (.long q2), .second] [(.int (9 : Int32)), (.ref a0)])) t
    refine XS.lloadN X1.here hx rfl (hb hby d11_13) rfl ?_
    show Steps p.tables e below (T1.setTop (mkF m 14 #[.val (.ref a0), .val (.int (8 : Int32)), .val (.long q2), .second] [(.long q2), (.int (9 : Int32)), (.ref a0)])) t
    refine XS.bipush X1.here hx rfl (hb hby d11_14) ?_
    show Steps p.tables e below (T1.setTop (mkF m 16 #[.val (.ref a0), .val (.int (8 : Int32)), .val (.long q2), .second] [(.int (48 : Int32)), (.long q2), (.int (9 : Int32)), (.ref a0)])) t
    refine XS.lushr X1.here hx rfl (hb hby d11_16) rfl ?_
    show Steps p.tables e below (T1.setTop (mkF m 17 #[.val (.ref a0), .val (.int (8 : Int32)), .val (.long q2), .second] [(.long ((q2.toUInt64 >>> ((48 : Int32) &&& 0x3f).toInt64.toUInt64).toInt64)), (.int (9 : Int32)), (.ref a0)])) t
    refine XS.l2i X1.here hx rfl (hb hby d11_17) rfl ?_
    show Steps p.tables e below (T1.setTop (mkF m 18 #[.val (.ref a0), .val (.int (8 : Int32)), .val (.long q2), .second] [(.int (((q2.toUInt64 >>> ((48 : Int32) &&& 0x3f).toInt64.toUInt64).toInt64).toInt32)), (.int (9 : Int32)), (.ref a0)])) t
    refine XS.i2b X1.here hx rfl (hb hby d11_18) rfl ?_
    exact kt
  obtain ⟨kk2, cl2, Ar2, qz2, S2, N2a, H2, G2⟩ := id (O1)
  have hin2 : ¬ ((9 : Int32) < 0 ∨ cl2.slots.size ≤ ((9 : Int32)).toNatClampNeg) := inb_of S2 (own_lt16 (n := 16) (by simp only [List.length_set, hlen]) (by decide) (by decide))
  obtain ⟨T2, h2, X2, e2, W2, st2⟩ := stB X1 hx hZ e1 Ar2 (j := (9 : Int32)) hin2 (g := (mkF m 19 #[.val (.ref a0), .val (.int (8 : Int32)), .val (.long q2), .second] [(.int ((((q2.toUInt64 >>> ((48 : Int32) &&& 0x3f).toInt64.toUInt64).toInt64).toInt32).toInt8.toInt32)), (.int (9 : Int32)), (.ref a0)])) rfl rfl (hb hby d11_19)
  have O2 : OBs Z h2 a0 ((xs.set 8 (own_v0 q2)).set 9 (own_v1 q2)) := OBs.set O1 W2 (fits_nar_byte _) 9 rfl (by rw [show (xs.set 8 (own_v0 q2)).length = 16 from (by simp only [List.length_set, hlen])]; decide)
  have KC2 : Keep h0 h2 [a0] := KC1.wr W2 (Or.inl (List.mem_of_getElem? (i := 0) rfl))
  have N2 := Fr.snoc X2 N1 gn_a0
  refine OGo.step st2 ?_
  show OGo _ _ _ _ _ _ _ (T2.setTop (mkF m 20 #[.val (.ref a0), .val (.int (8 : Int32)), .val (.long q2), .second] []))
  refine OGo.step (F' := T2.setTop (mkF m 30 #[.val (.ref a0), .val (.int (8 : Int32)), .val (.long q2), .second] [(.int ((((q2.toUInt64 >>> ((40 : Int32) &&& 0x3f).toInt64.toUInt64).toInt64).toInt32).toInt8.toInt32)), (.int (10 : Int32)), (.ref a0)])) (fun t kt => ?_) ?_
  · show Steps p.tables e below (T2.setTop (mkF m 20 #[.val (.ref a0), .val (.int (8 : Int32)), .val (.long q2), .second] [])) t
    refine XS.aloadN X2.here hx rfl (hb hby d11_20) rfl rfl ?_
    show Steps p.tables e below (T2.setTop (mkF m 21 #[.val (.ref a0), .val (.int (8 : Int32)), .val (.long q2), .second] [(.ref a0)])) t
    refine XS.iloadN X2.here hx rfl (hb hby d11_21) rfl ?_
    show Steps p.tables e below (T2.setTop (mkF m 22 #[.val (.ref a0), .val (.int (8 : Int32)), .val (.long q2), .second] [(.int (8 : Int32)), (.ref a0)])) t
    refine XS.iconst X2.here hx rfl (hb hby d11_22) ?_
    show Steps p.tables e below (T2.setTop (mkF m 23 #[.val (.ref a0), .val (.int (8 : Int32)), .val (.long q2), .second] [(.int (2 : Int32)), (.int (8 : Int32)), (.ref a0)])) t
    refine XS.iadd X2.here hx rfl (hb hby d11_23) rfl ?_
    show Steps p.tables e below (T2.setTop (mkF m 24 #[.val (.ref a0), .val (.int (8 : Int32)), .val (.long q2), .second] [(.int (10 : Int32)), (.ref a0)])) t
    refine XS.lloadN X2.here hx rfl (hb hby d11_24) rfl ?_
    show Steps p.tables e below (T2.setTop (mkF m 25 #[.val (.ref a0), .val (.int (8 : Int32)), .val (.long q2), .second] [(.long q2), (.int (10 : Int32)), (.ref a0)])) t
    refine XS.bipush X2.here hx rfl (hb hby d11_25) ?_
    show Steps p.tables e below (T2.setTop (mkF m 27 #[.val (.ref a0), .val (.int (8 : Int32)), .val (.long q2), .second] [(.int (40 : Int32)), (.long q2), (.int (10 : Int32)), (.ref a0)])) t
    refine XS.lushr X2.here hx rfl (hb hby d11_27) rfl ?_
    show Steps p.tables e below (T2.setTop (mkF m 28 #[.val (.ref a0), .val (.int (8 : Int32)), .val (.long q2), .second] [(.long ((q2.toUInt64 >>> ((40 : Int32) &&& 0x3f).toInt64.toUInt64).toInt64)), (.int (10 : Int32)), (.ref a0)])) t
    refine XS.l2i X2.here hx rfl (hb hby d11_28) rfl ?_
    show Steps p.tables e below (T2.setTop (mkF m 29 #[.val (.ref a0), .val (.int (8 : Int32)), .val (.long q2), .second] [(.int (((q2.toUInt64 >>> ((40 : Int32) &&& 0x3f).toInt64.toUInt64).toInt64).toInt32)), (.int (10 : Int32)), (.ref a0)])) t
    refine XS.i2b X2.here hx rfl (hb hby d11_29) rfl ?_
    exact kt
  obtain ⟨kk3, cl3, Ar3, qz3, S3, N3a, H3, G3⟩ := id (O2)
  have hin3 : ¬ ((10 : Int32) < 0 ∨ cl3.slots.size ≤ ((10 : Int32)).toNatClampNeg) := inb_of S3 (own_lt16 (n := 16) (by simp only [List.length_set, hlen]) (by decide) (by decide))
  obtain ⟨T3, h3, X3, e3, W3, st3⟩ := stB X2 hx hZ e2 Ar3 (j := (10 : Int32)) hin3 (g := (mkF m 30 #[.val (.ref a0), .val (.int (8 : Int32)), .val (.long q2), .second] [(.int ((((q2.toUInt64 >>> ((40 : Int32) &&& 0x3f).toInt64.toUInt64).toInt64).toInt32).toInt8.toInt32)), (.int (10 : Int32)), (.ref a0)])) rfl rfl (hb hby d11_30)
  have O3 : OBs Z h3 a0 (((xs.set 8 (own_v0 q2)).set 9 (own_v1 q2)).set 10 (own_v2 q2)) := OBs.set O2 W3 (fits_nar_byte _) 10 rfl (by rw [show ((xs.set 8 (own_v0 q2)).set 9 (own_v1 q2)).length = 16 from (by simp only [List.length_set, hlen])]; decide)
  have KC3 : Keep h0 h3 [a0] := KC2.wr W3 (Or.inl (List.mem_of_getElem? (i := 0) rfl))
  have N3 := Fr.snoc X3 N2 gn_a0
  refine OGo.step st3 ?_
  show OGo _ _ _ _ _ _ _ (T3.setTop (mkF m 31 #[.val (.ref a0), .val (.int (8 : Int32)), .val (.long q2), .second] []))
  refine OGo.step (F' := T3.setTop (mkF m 41 #[.val (.ref a0), .val (.int (8 : Int32)), .val (.long q2), .second] [(.int ((((q2.toUInt64 >>> ((32 : Int32) &&& 0x3f).toInt64.toUInt64).toInt64).toInt32).toInt8.toInt32)), (.int (11 : Int32)), (.ref a0)])) (fun t kt => ?_) ?_
  · show Steps p.tables e below (T3.setTop (mkF m 31 #[.val (.ref a0), .val (.int (8 : Int32)), .val (.long q2), .second] [])) t
    refine XS.aloadN X3.here hx rfl (hb hby d11_31) rfl rfl ?_
    show Steps p.tables e below (T3.setTop (mkF m 32 #[.val (.ref a0), .val (.int (8 : Int32)), .val (.long q2), .second] [(.ref a0)])) t
    refine XS.iloadN X3.here hx rfl (hb hby d11_32) rfl ?_
    show Steps p.tables e below (T3.setTop (mkF m 33 #[.val (.ref a0), .val (.int (8 : Int32)), .val (.long q2), .second] [(.int (8 : Int32)), (.ref a0)])) t
    refine XS.iconst X3.here hx rfl (hb hby d11_33) ?_
    show Steps p.tables e below (T3.setTop (mkF m 34 #[.val (.ref a0), .val (.int (8 : Int32)), .val (.long q2), .second] [(.int (3 : Int32)), (.int (8 : Int32)), (.ref a0)])) t
    refine XS.iadd X3.here hx rfl (hb hby d11_34) rfl ?_
    show Steps p.tables e below (T3.setTop (mkF m 35 #[.val (.ref a0), .val (.int (8 : Int32)), .val (.long q2), .second] [(.int (11 : Int32)), (.ref a0)])) t
    refine XS.lloadN X3.here hx rfl (hb hby d11_35) rfl ?_
    show Steps p.tables e below (T3.setTop (mkF m 36 #[.val (.ref a0), .val (.int (8 : Int32)), .val (.long q2), .second] [(.long q2), (.int (11 : Int32)), (.ref a0)])) t
    refine XS.bipush X3.here hx rfl (hb hby d11_36) ?_
    show Steps p.tables e below (T3.setTop (mkF m 38 #[.val (.ref a0), .val (.int (8 : Int32)), .val (.long q2), .second] [(.int (32 : Int32)), (.long q2), (.int (11 : Int32)), (.ref a0)])) t
    refine XS.lushr X3.here hx rfl (hb hby d11_38) rfl ?_
    show Steps p.tables e below (T3.setTop (mkF m 39 #[.val (.ref a0), .val (.int (8 : Int32)), .val (.long q2), .second] [(.long ((q2.toUInt64 >>> ((32 : Int32) &&& 0x3f).toInt64.toUInt64).toInt64)), (.int (11 : Int32)), (.ref a0)])) t
    refine XS.l2i X3.here hx rfl (hb hby d11_39) rfl ?_
    show Steps p.tables e below (T3.setTop (mkF m 40 #[.val (.ref a0), .val (.int (8 : Int32)), .val (.long q2), .second] [(.int (((q2.toUInt64 >>> ((32 : Int32) &&& 0x3f).toInt64.toUInt64).toInt64).toInt32)), (.int (11 : Int32)), (.ref a0)])) t
    refine XS.i2b X3.here hx rfl (hb hby d11_40) rfl ?_
    exact kt
  obtain ⟨kk4, cl4, Ar4, qz4, S4, N4a, H4, G4⟩ := id (O3)
  have hin4 : ¬ ((11 : Int32) < 0 ∨ cl4.slots.size ≤ ((11 : Int32)).toNatClampNeg) := inb_of S4 (own_lt16 (n := 16) (by simp only [List.length_set, hlen]) (by decide) (by decide))
  obtain ⟨T4, h4, X4, e4, W4, st4⟩ := stB X3 hx hZ e3 Ar4 (j := (11 : Int32)) hin4 (g := (mkF m 41 #[.val (.ref a0), .val (.int (8 : Int32)), .val (.long q2), .second] [(.int ((((q2.toUInt64 >>> ((32 : Int32) &&& 0x3f).toInt64.toUInt64).toInt64).toInt32).toInt8.toInt32)), (.int (11 : Int32)), (.ref a0)])) rfl rfl (hb hby d11_41)
  have O4 : OBs Z h4 a0 ((((xs.set 8 (own_v0 q2)).set 9 (own_v1 q2)).set 10 (own_v2 q2)).set 11 (own_v3 q2)) := OBs.set O3 W4 (fits_nar_byte _) 11 rfl (by rw [show (((xs.set 8 (own_v0 q2)).set 9 (own_v1 q2)).set 10 (own_v2 q2)).length = 16 from (by simp only [List.length_set, hlen])]; decide)
  have KC4 : Keep h0 h4 [a0] := KC3.wr W4 (Or.inl (List.mem_of_getElem? (i := 0) rfl))
  have N4 := Fr.snoc X4 N3 gn_a0
  refine OGo.step st4 ?_
  show OGo _ _ _ _ _ _ _ (T4.setTop (mkF m 42 #[.val (.ref a0), .val (.int (8 : Int32)), .val (.long q2), .second] []))
  refine OGo.step (F' := T4.setTop (mkF m 52 #[.val (.ref a0), .val (.int (8 : Int32)), .val (.long q2), .second] [(.int ((((q2.toUInt64 >>> ((24 : Int32) &&& 0x3f).toInt64.toUInt64).toInt64).toInt32).toInt8.toInt32)), (.int (12 : Int32)), (.ref a0)])) (fun t kt => ?_) ?_
  · show Steps p.tables e below (T4.setTop (mkF m 42 #[.val (.ref a0), .val (.int (8 : Int32)), .val (.long q2), .second] [])) t
    refine XS.aloadN X4.here hx rfl (hb hby d11_42) rfl rfl ?_
    show Steps p.tables e below (T4.setTop (mkF m 43 #[.val (.ref a0), .val (.int (8 : Int32)), .val (.long q2), .second] [(.ref a0)])) t
    refine XS.iloadN X4.here hx rfl (hb hby d11_43) rfl ?_
    show Steps p.tables e below (T4.setTop (mkF m 44 #[.val (.ref a0), .val (.int (8 : Int32)), .val (.long q2), .second] [(.int (8 : Int32)), (.ref a0)])) t
    refine XS.iconst X4.here hx rfl (hb hby d11_44) ?_
    show Steps p.tables e below (T4.setTop (mkF m 45 #[.val (.ref a0), .val (.int (8 : Int32)), .val (.long q2), .second] [(.int (4 : Int32)), (.int (8 : Int32)), (.ref a0)])) t
    refine XS.iadd X4.here hx rfl (hb hby d11_45) rfl ?_
    show Steps p.tables e below (T4.setTop (mkF m 46 #[.val (.ref a0), .val (.int (8 : Int32)), .val (.long q2), .second] [(.int (12 : Int32)), (.ref a0)])) t
    refine XS.lloadN X4.here hx rfl (hb hby d11_46) rfl ?_
    show Steps p.tables e below (T4.setTop (mkF m 47 #[.val (.ref a0), .val (.int (8 : Int32)), .val (.long q2), .second] [(.long q2), (.int (12 : Int32)), (.ref a0)])) t
    refine XS.bipush X4.here hx rfl (hb hby d11_47) ?_
    show Steps p.tables e below (T4.setTop (mkF m 49 #[.val (.ref a0), .val (.int (8 : Int32)), .val (.long q2), .second] [(.int (24 : Int32)), (.long q2), (.int (12 : Int32)), (.ref a0)])) t
    refine XS.lushr X4.here hx rfl (hb hby d11_49) rfl ?_
    show Steps p.tables e below (T4.setTop (mkF m 50 #[.val (.ref a0), .val (.int (8 : Int32)), .val (.long q2), .second] [(.long ((q2.toUInt64 >>> ((24 : Int32) &&& 0x3f).toInt64.toUInt64).toInt64)), (.int (12 : Int32)), (.ref a0)])) t
    refine XS.l2i X4.here hx rfl (hb hby d11_50) rfl ?_
    show Steps p.tables e below (T4.setTop (mkF m 51 #[.val (.ref a0), .val (.int (8 : Int32)), .val (.long q2), .second] [(.int (((q2.toUInt64 >>> ((24 : Int32) &&& 0x3f).toInt64.toUInt64).toInt64).toInt32)), (.int (12 : Int32)), (.ref a0)])) t
    refine XS.i2b X4.here hx rfl (hb hby d11_51) rfl ?_
    exact kt
  obtain ⟨kk5, cl5, Ar5, qz5, S5, N5a, H5, G5⟩ := id (O4)
  have hin5 : ¬ ((12 : Int32) < 0 ∨ cl5.slots.size ≤ ((12 : Int32)).toNatClampNeg) := inb_of S5 (own_lt16 (n := 16) (by simp only [List.length_set, hlen]) (by decide) (by decide))
  obtain ⟨T5, h5, X5, e5, W5, st5⟩ := stB X4 hx hZ e4 Ar5 (j := (12 : Int32)) hin5 (g := (mkF m 52 #[.val (.ref a0), .val (.int (8 : Int32)), .val (.long q2), .second] [(.int ((((q2.toUInt64 >>> ((24 : Int32) &&& 0x3f).toInt64.toUInt64).toInt64).toInt32).toInt8.toInt32)), (.int (12 : Int32)), (.ref a0)])) rfl rfl (hb hby d11_52)
  have O5 : OBs Z h5 a0 (((((xs.set 8 (own_v0 q2)).set 9 (own_v1 q2)).set 10 (own_v2 q2)).set 11 (own_v3 q2)).set 12 (own_v4 q2)) := OBs.set O4 W5 (fits_nar_byte _) 12 rfl (by rw [show ((((xs.set 8 (own_v0 q2)).set 9 (own_v1 q2)).set 10 (own_v2 q2)).set 11 (own_v3 q2)).length = 16 from (by simp only [List.length_set, hlen])]; decide)
  have KC5 : Keep h0 h5 [a0] := KC4.wr W5 (Or.inl (List.mem_of_getElem? (i := 0) rfl))
  have N5 := Fr.snoc X5 N4 gn_a0
  refine OGo.step st5 ?_
  show OGo _ _ _ _ _ _ _ (T5.setTop (mkF m 53 #[.val (.ref a0), .val (.int (8 : Int32)), .val (.long q2), .second] []))
  refine OGo.step (F' := T5.setTop (mkF m 63 #[.val (.ref a0), .val (.int (8 : Int32)), .val (.long q2), .second] [(.int ((((q2.toUInt64 >>> ((16 : Int32) &&& 0x3f).toInt64.toUInt64).toInt64).toInt32).toInt8.toInt32)), (.int (13 : Int32)), (.ref a0)])) (fun t kt => ?_) ?_
  · show Steps p.tables e below (T5.setTop (mkF m 53 #[.val (.ref a0), .val (.int (8 : Int32)), .val (.long q2), .second] [])) t
    refine XS.aloadN X5.here hx rfl (hb hby d11_53) rfl rfl ?_
    show Steps p.tables e below (T5.setTop (mkF m 54 #[.val (.ref a0), .val (.int (8 : Int32)), .val (.long q2), .second] [(.ref a0)])) t
    refine XS.iloadN X5.here hx rfl (hb hby d11_54) rfl ?_
    show Steps p.tables e below (T5.setTop (mkF m 55 #[.val (.ref a0), .val (.int (8 : Int32)), .val (.long q2), .second] [(.int (8 : Int32)), (.ref a0)])) t
    refine XS.iconst X5.here hx rfl (hb hby d11_55) ?_
    show Steps p.tables e below (T5.setTop (mkF m 56 #[.val (.ref a0), .val (.int (8 : Int32)), .val (.long q2), .second] [(.int (5 : Int32)), (.int (8 : Int32)), (.ref a0)])) t
    refine XS.iadd X5.here hx rfl (hb hby d11_56) rfl ?_
    show Steps p.tables e below (T5.setTop (mkF m 57 #[.val (.ref a0), .val (.int (8 : Int32)), .val (.long q2), .second] [(.int (13 : Int32)), (.ref a0)])) t
    refine XS.lloadN X5.here hx rfl (hb hby d11_57) rfl ?_
    show Steps p.tables e below (T5.setTop (mkF m 58 #[.val (.ref a0), .val (.int (8 : Int32)), .val (.long q2), .second] [(.long q2), (.int (13 : Int32)), (.ref a0)])) t
    refine XS.bipush X5.here hx rfl (hb hby d11_58) ?_
    show Steps p.tables e below (T5.setTop (mkF m 60 #[.val (.ref a0), .val (.int (8 : Int32)), .val (.long q2), .second] [(.int (16 : Int32)), (.long q2), (.int (13 : Int32)), (.ref a0)])) t
    refine XS.lushr X5.here hx rfl (hb hby d11_60) rfl ?_
    show Steps p.tables e below (T5.setTop (mkF m 61 #[.val (.ref a0), .val (.int (8 : Int32)), .val (.long q2), .second] [(.long ((q2.toUInt64 >>> ((16 : Int32) &&& 0x3f).toInt64.toUInt64).toInt64)), (.int (13 : Int32)), (.ref a0)])) t
    refine XS.l2i X5.here hx rfl (hb hby d11_61) rfl ?_
    show Steps p.tables e below (T5.setTop (mkF m 62 #[.val (.ref a0), .val (.int (8 : Int32)), .val (.long q2), .second] [(.int (((q2.toUInt64 >>> ((16 : Int32) &&& 0x3f).toInt64.toUInt64).toInt64).toInt32)), (.int (13 : Int32)), (.ref a0)])) t
    refine XS.i2b X5.here hx rfl (hb hby d11_62) rfl ?_
    exact kt
  obtain ⟨kk6, cl6, Ar6, qz6, S6, N6a, H6, G6⟩ := id (O5)
  have hin6 : ¬ ((13 : Int32) < 0 ∨ cl6.slots.size ≤ ((13 : Int32)).toNatClampNeg) := inb_of S6 (own_lt16 (n := 16) (by simp only [List.length_set, hlen]) (by decide) (by decide))
  obtain ⟨T6, h6, X6, e6, W6, st6⟩ := stB X5 hx hZ e5 Ar6 (j := (13 : Int32)) hin6 (g := (mkF m 63 #[.val (.ref a0), .val (.int (8 : Int32)), .val (.long q2), .second] [(.int ((((q2.toUInt64 >>> ((16 : Int32) &&& 0x3f).toInt64.toUInt64).toInt64).toInt32).toInt8.toInt32)), (.int (13 : Int32)), (.ref a0)])) rfl rfl (hb hby d11_63)
  have O6 : OBs Z h6 a0 ((((((xs.set 8 (own_v0 q2)).set 9 (own_v1 q2)).set 10 (own_v2 q2)).set 11 (own_v3 q2)).set 12 (own_v4 q2)).set 13 (own_v5 q2)) := OBs.set O5 W6 (fits_nar_byte _) 13 rfl (by rw [show (((((xs.set 8 (own_v0 q2)).set 9 (own_v1 q2)).set 10 (own_v2 q2)).set 11 (own_v3 q2)).set 12 (own_v4 q2)).length = 16 from (by simp only [List.length_set, hlen])]; decide)
  have KC6 : Keep h0 h6 [a0] := KC5.wr W6 (Or.inl (List.mem_of_getElem? (i := 0) rfl))
  have N6 := Fr.snoc X6 N5 gn_a0
  refine OGo.step st6 ?_
  show OGo _ _ _ _ _ _ _ (T6.setTop (mkF m 64 #[.val (.ref a0), .val (.int (8 : Int32)), .val (.long q2), .second] []))
  refine OGo.step (F' := T6.setTop (mkF m 75 #[.val (.ref a0), .val (.int (8 : Int32)), .val (.long q2), .second] [(.int ((((q2.toUInt64 >>> ((8 : Int32) &&& 0x3f).toInt64.toUInt64).toInt64).toInt32).toInt8.toInt32)), (.int (14 : Int32)), (.ref a0)])) (fun t kt => ?_) ?_
  · show Steps p.tables e below (T6.setTop (mkF m 64 #[.val (.ref a0), .val (.int (8 : Int32)), .val (.long q2), .second] [])) t
    refine XS.aloadN X6.here hx rfl (hb hby d11_64) rfl rfl ?_
    show Steps p.tables e below (T6.setTop (mkF m 65 #[.val (.ref a0), .val (.int (8 : Int32)), .val (.long q2), .second] [(.ref a0)])) t
    refine XS.iloadN X6.here hx rfl (hb hby d11_65) rfl ?_
    show Steps p.tables e below (T6.setTop (mkF m 66 #[.val (.ref a0), .val (.int (8 : Int32)), .val (.long q2), .second] [(.int (8 : Int32)), (.ref a0)])) t
    refine XS.bipush X6.here hx rfl (hb hby d11_66) ?_
    show Steps p.tables e below (T6.setTop (mkF m 68 #[.val (.ref a0), .val (.int (8 : Int32)), .val (.long q2), .second] [(.int (6 : Int32)), (.int (8 : Int32)), (.ref a0)])) t
    refine XS.iadd X6.here hx rfl (hb hby d11_68) rfl ?_
    show Steps p.tables e below (T6.setTop (mkF m 69 #[.val (.ref a0), .val (.int (8 : Int32)), .val (.long q2), .second] [(.int (14 : Int32)), (.ref a0)])) t
    refine XS.lloadN X6.here hx rfl (hb hby d11_69) rfl ?_
    show Steps p.tables e below (T6.setTop (mkF m 70 #[.val (.ref a0), .val (.int (8 : Int32)), .val (.long q2), .second] [(.long q2), (.int (14 : Int32)), (.ref a0)])) t
    refine XS.bipush X6.here hx rfl (hb hby d11_70) ?_
    show Steps p.tables e below (T6.setTop (mkF m 72 #[.val (.ref a0), .val (.int (8 : Int32)), .val (.long q2), .second] [(.int (8 : Int32)), (.long q2), (.int (14 : Int32)), (.ref a0)])) t
    refine XS.lushr X6.here hx rfl (hb hby d11_72) rfl ?_
    show Steps p.tables e below (T6.setTop (mkF m 73 #[.val (.ref a0), .val (.int (8 : Int32)), .val (.long q2), .second] [(.long ((q2.toUInt64 >>> ((8 : Int32) &&& 0x3f).toInt64.toUInt64).toInt64)), (.int (14 : Int32)), (.ref a0)])) t
    refine XS.l2i X6.here hx rfl (hb hby d11_73) rfl ?_
    show Steps p.tables e below (T6.setTop (mkF m 74 #[.val (.ref a0), .val (.int (8 : Int32)), .val (.long q2), .second] [(.int (((q2.toUInt64 >>> ((8 : Int32) &&& 0x3f).toInt64.toUInt64).toInt64).toInt32)), (.int (14 : Int32)), (.ref a0)])) t
    refine XS.i2b X6.here hx rfl (hb hby d11_74) rfl ?_
    exact kt
  obtain ⟨kk7, cl7, Ar7, qz7, S7, N7a, H7, G7⟩ := id (O6)
  have hin7 : ¬ ((14 : Int32) < 0 ∨ cl7.slots.size ≤ ((14 : Int32)).toNatClampNeg) := inb_of S7 (own_lt16 (n := 16) (by simp only [List.length_set, hlen]) (by decide) (by decide))
  obtain ⟨T7, h7, X7, e7, W7, st7⟩ := stB X6 hx hZ e6 Ar7 (j := (14 : Int32)) hin7 (g := (mkF m 75 #[.val (.ref a0), .val (.int (8 : Int32)), .val (.long q2), .second] [(.int ((((q2.toUInt64 >>> ((8 : Int32) &&& 0x3f).toInt64.toUInt64).toInt64).toInt32).toInt8.toInt32)), (.int (14 : Int32)), (.ref a0)])) rfl rfl (hb hby d11_75)
  have O7 : OBs Z h7 a0 (((((((xs.set 8 (own_v0 q2)).set 9 (own_v1 q2)).set 10 (own_v2 q2)).set 11 (own_v3 q2)).set 12 (own_v4 q2)).set 13 (own_v5 q2)).set 14 (own_v6 q2)) := OBs.set O6 W7 (fits_nar_byte _) 14 rfl (by rw [show ((((((xs.set 8 (own_v0 q2)).set 9 (own_v1 q2)).set 10 (own_v2 q2)).set 11 (own_v3 q2)).set 12 (own_v4 q2)).set 13 (own_v5 q2)).length = 16 from (by simp only [List.length_set, hlen])]; decide)
  have KC7 : Keep h0 h7 [a0] := KC6.wr W7 (Or.inl (List.mem_of_getElem? (i := 0) rfl))
  have N7 := Fr.snoc X7 N6 gn_a0
  refine OGo.step st7 ?_
  show OGo _ _ _ _ _ _ _ (T7.setTop (mkF m 76 #[.val (.ref a0), .val (.int (8 : Int32)), .val (.long q2), .second] []))
  refine OGo.step (F' := T7.setTop (mkF m 84 #[.val (.ref a0), .val (.int (8 : Int32)), .val (.long q2), .second] [(.int ((q2.toInt32).toInt8.toInt32)), (.int (15 : Int32)), (.ref a0)])) (fun t kt => ?_) ?_
  · show Steps p.tables e below (T7.setTop (mkF m 76 #[.val (.ref a0), .val (.int (8 : Int32)), .val (.long q2), .second] [])) t
    refine XS.aloadN X7.here hx rfl (hb hby d11_76) rfl rfl ?_
    show Steps p.tables e below (T7.setTop (mkF m 77 #[.val (.ref a0), .val (.int (8 : Int32)), .val (.long q2), .second] [(.ref a0)])) t
    refine XS.iloadN X7.here hx rfl (hb hby d11_77) rfl ?_
    show Steps p.tables e below (T7.setTop (mkF m 78 #[.val (.ref a0), .val (.int (8 : Int32)), .val (.long q2), .second] [(.int (8 : Int32)), (.ref a0)])) t
    refine XS.bipush X7.here hx rfl (hb hby d11_78) ?_
    show Steps p.tables e below (T7.setTop (mkF m 80 #[.val (.ref a0), .val (.int (8 : Int32)), .val (.long q2), .second] [(.int (7 : Int32)), (.int (8 : Int32)), (.ref a0)])) t
    refine XS.iadd X7.here hx rfl (hb hby d11_80) rfl ?_
    show Steps p.tables e below (T7.setTop (mkF m 81 #[.val (.ref a0), .val (.int (8 : Int32)), .val (.long q2), .second] [(.int (15 : Int32)), (.ref a0)])) t
    refine XS.lloadN X7.here hx rfl (hb hby d11_81) rfl ?_
    show Steps p.tables e below (T7.setTop (mkF m 82 #[.val (.ref a0), .val (.int (8 : Int32)), .val (.long q2), .second] [(.long q2), (.int (15 : Int32)), (.ref a0)])) t
    refine XS.l2i X7.here hx rfl (hb hby d11_82) rfl ?_
    show Steps p.tables e below (T7.setTop (mkF m 83 #[.val (.ref a0), .val (.int (8 : Int32)), .val (.long q2), .second] [(.int (q2.toInt32)), (.int (15 : Int32)), (.ref a0)])) t
    refine XS.i2b X7.here hx rfl (hb hby d11_83) rfl ?_
    exact kt
  obtain ⟨kk8, cl8, Ar8, qz8, S8, N8a, H8, G8⟩ := id (O7)
  have hin8 : ¬ ((15 : Int32) < 0 ∨ cl8.slots.size ≤ ((15 : Int32)).toNatClampNeg) := inb_of S8 (own_lt16 (n := 16) (by simp only [List.length_set, hlen]) (by decide) (by decide))
  obtain ⟨T8, h8, X8, e8, W8, st8⟩ := stB X7 hx hZ e7 Ar8 (j := (15 : Int32)) hin8 (g := (mkF m 84 #[.val (.ref a0), .val (.int (8 : Int32)), .val (.long q2), .second] [(.int ((q2.toInt32).toInt8.toInt32)), (.int (15 : Int32)), (.ref a0)])) rfl rfl (hb hby d11_84)
  have O8 : OBs Z h8 a0 ((((((((xs.set 8 (own_v0 q2)).set 9 (own_v1 q2)).set 10 (own_v2 q2)).set 11 (own_v3 q2)).set 12 (own_v4 q2)).set 13 (own_v5 q2)).set 14 (own_v6 q2)).set 15 (own_v7 q2)) := OBs.set O7 W8 (fits_nar_byte _) 15 rfl (by rw [show (((((((xs.set 8 (own_v0 q2)).set 9 (own_v1 q2)).set 10 (own_v2 q2)).set 11 (own_v3 q2)).set 12 (own_v4 q2)).set 13 (own_v5 q2)).set 14 (own_v6 q2)).length = 16 from (by simp only [List.length_set, hlen])]; decide)
  have KC8 : Keep h0 h8 [a0] := KC7.wr W8 (Or.inl (List.mem_of_getElem? (i := 0) rfl))
  have N8 := Fr.snoc X8 N7 gn_a0
  refine OGo.step st8 ?_
  show OGo _ _ _ _ _ _ _ (T8.setTop (mkF m 85 #[.val (.ref a0), .val (.int (8 : Int32)), .val (.long q2), .second] []))
  refine OGo.retV X8 hx hlk hret (hb hby d11_85) ?_ (by decide) (by decide)
  show Q11_8 Z a0 q2 xs h0 n0 _ T8.heap _
  rw [e8]
  exact ⟨rfl, N8, KC8, ((((((((E_a0.wr W1).wr W2).wr W3).wr W4).wr W5).wr W6).wr W7).wr W8), O8⟩
/-! body 12: com/example/veiled_alerts/veiledalerts/model/NetworkContainingPinLaw.get8:([BI)J -/
theorem ef_12_8 (m : MethodId) (x0 : Addr) : entryFrame m #[(.ref x0), (.int (8 : Int32))] 2 = mkF m 0 #[.val (.ref x0), .val (.int (8 : Int32))] [] := by first | (simp [entryFrame, mkF, argsToLocals, Value.category]; done) | rfl
def f12_8 (xs : List Int32) : Int64 :=
  (((((((((((xs.getD 8 0).toInt64) &&& (255 : Int64)) <<< ((56 : Int32) &&& 0x3f).toInt64) ||| ((((xs.getD 9 0).toInt64) &&& (255 : Int64)) <<< ((48 : Int32) &&& 0x3f).toInt64)) ||| ((((xs.getD 10 0).toInt64) &&& (255 : Int64)) <<< ((40 : Int32) &&& 0x3f).toInt64)) ||| ((((xs.getD 11 0).toInt64) &&& (255 : Int64)) <<< ((32 : Int32) &&& 0x3f).toInt64)) ||| ((((xs.getD 12 0).toInt64) &&& (255 : Int64)) <<< ((24 : Int32) &&& 0x3f).toInt64)) ||| ((((xs.getD 13 0).toInt64) &&& (255 : Int64)) <<< ((16 : Int32) &&& 0x3f).toInt64)) ||| ((((xs.getD 14 0).toInt64) &&& (255 : Int64)) <<< ((8 : Int32) &&& 0x3f).toInt64)) ||| (((xs.getD 15 0).toInt64) &&& (255 : Int64)))
set_option maxRecDepth 65536 in
set_option maxHeartbeats 40000000 in
theorem rm12_8 (l : Launch) (Z : State) (az : Array Value) (hw : ∀ d ∈ tables_1, d.before az Z = true) (ws : List Jvm.Cond) (a0 : Addr) (xs : List Int32) (h0 : Heap) (n0 : Nat) (Z0 : n0 ≤ h0.size) (O_a0 : OBs Z h0 a0 xs) (hlen : xs.length = 16) :
    OCtr l Z (⟨"com/example/veiled_alerts/veiledalerts/model/NetworkContainingPinLaw", "get8", "([BI)J"⟩ : MethodName) method_4_code 2 (some .long) ws ({ frames := 0, cells := 0, slots := 0, locals := 0 } : Room) #[(.ref a0), (.int (8 : Int32))] h0 (OPure (some (.long (f12_8 xs))) h0 n0) := by
  refine OCtr.of (plainFor_of_name pn_12) ?_
  intro p e s m below meth c s₁ X0 hx hlk hZ hown0 hnm hby hml0 hret e0
  have hown : s.vm.findClass "com/example/veiled_alerts/veiledalerts/model/NetworkContainingPinLaw" = some m.cls := hown0
  have hml : c.maxLocals = 2 := hml0
  have N0 := Fr.nil n0
  refine OGo.step (fun t k => castTop (ef_12_8 m a0) k) ?_
  refine OGo.step (F' := s₁.setTop (mkF m 2 #[.val (.ref a0), .val (.int (8 : Int32))] [(.int (8 : Int32)), (.ref a0)])) (fun t kt => ?_) ?_
  · show Steps p.tables e below (s₁.setTop (mkF m 0 #[.val (.ref a0), .val (.int (8 : Int32))] [])) t
    refine XS.aloadN X0.here hx rfl (hb hby d12_0) rfl rfl ?_
    show Steps p.tables e below (s₁.setTop (mkF m 1 #[.val (.ref a0), .val (.int (8 : Int32))] [(.ref a0)])) t
    refine XS.iloadN X0.here hx rfl (hb hby d12_1) rfl ?_
    exact kt
  obtain ⟨kk1, cl1, Ar1, qz1, S1, N1a, H1, G1⟩ := id (O_a0)
  have hin1 : ¬ ((8 : Int32) < 0 ∨ cl1.slots.size ≤ ((8 : Int32)).toNatClampNeg) := inb_of S1 (own_lt16 (n := 16) (by simp only [List.length_set, hlen]) (by decide) (by decide))
  have hat1 : cl1.slots[((8 : Int32)).toNatClampNeg]? = some (.int (xs.getD 8 0)) := H1.at hin1 (own_getv _ _)
  refine OGo.step (F' := s₁.setTop (mkF m 3 #[.val (.ref a0), .val (.int (8 : Int32))] [(.int (xs.getD 8 0))])) (fun t kt => ?_) ?_
  · show Steps p.tables e below (s₁.setTop (mkF m 2 #[.val (.ref a0), .val (.int (8 : Int32))] [(.int (8 : Int32)), (.ref a0)])) t
    refine X0.baloadBytes hx (j := (8 : Int32)) (v := (.int (xs.getD 8 0))) (by rw [e0]; exact Ar1.1) (State.isArrayOf_alike hZ.alike Ar1.2.1) Ar1.2.2 hin1 hat1 (g := (mkF m 2 #[.val (.ref a0), .val (.int (8 : Int32))] [(.int (8 : Int32)), (.ref a0)])) rfl rfl (hb hby d12_2) _ ?_
    exact kt
  refine OGo.step (F' := s₁.setTop (mkF m 15 #[.val (.ref a0), .val (.int (8 : Int32))] [(.int (9 : Int32)), (.ref a0), (.long ((((xs.getD 8 0).toInt64) &&& (255 : Int64)) <<< ((56 : Int32) &&& 0x3f).toInt64))])) (fun t kt => ?_) ?_
  · show Steps p.tables e below (s₁.setTop (mkF m 3 #[.val (.ref a0), .val (.int (8 : Int32))] [(.int (xs.getD 8 0))])) t
    refine XS.i2l X0.here hx rfl (hb hby d12_3) rfl ?_
    show Steps p.tables e below (s₁.setTop (mkF m 4 #[.val (.ref a0), .val (.int (8 : Int32))] [(.long ((xs.getD 8 0).toInt64))])) t
    refine X0.ldc2Long hx hown (mvT hZ (own_wd hw 73 rfl)) (g := (mkF m 4 #[.val (.ref a0), .val (.int (8 : Int32))] [(.long ((xs.getD 8 0).toInt64))])) rfl (hb hby d12_4) _ ?_
    show Steps p.tables e below (s₁.setTop (mkF m 7 #[.val (.ref a0), .val (.int (8 : Int32))] [(.long (255 : Int64)), (.long ((xs.getD 8 0).toInt64))])) t
    refine XS.land X0.here hx rfl (hb hby d12_7) rfl ?_
    show Steps p.tables e below (s₁.setTop (mkF m 8 #[.val (.ref a0), .val (.int (8 : Int32))] [(.long (((xs.getD 8 0).toInt64) &&& (255 : Int64)))])) t
    refine XS.bipush X0.here hx rfl (hb hby d12_8) ?_
    show Steps p.tables e below (s₁.setTop (mkF m 10 #[.val (.ref a0), .val (.int (8 : Int32))] [(.int (56 : Int32)), (.long (((xs.getD 8 0).toInt64) &&& (255 : Int64)))])) t
    refine XS.lshl X0.here hx rfl (hb hby d12_10) rfl ?_
    show Steps p.tables e below (s₁.setTop (mkF m 11 #[.val (.ref a0), .val (.int (8 : Int32))] [(.long ((((xs.getD 8 0).toInt64) &&& (255 : Int64)) <<< ((56 : Int32) &&& 0x3f).toInt64))])) t
    refine XS.aloadN X0.here hx rfl (hb hby d12_11) rfl rfl ?_
    show Steps p.tables e below (s₁.setTop (mkF m 12 #[.val (.ref a0), .val (.int (8 : Int32))] [(.ref a0), (.long ((((xs.getD 8 0).toInt64) &&& (255 : Int64)) <<< ((56 : Int32) &&& 0x3f).toInt64))])) t
    refine XS.iloadN X0.here hx rfl (hb hby d12_12) rfl ?_
    show Steps p.tables e below (s₁.setTop (mkF m 13 #[.val (.ref a0), .val (.int (8 : Int32))] [(.int (8 : Int32)), (.ref a0), (.long ((((xs.getD 8 0).toInt64) &&& (255 : Int64)) <<< ((56 : Int32) &&& 0x3f).toInt64))])) t
    refine XS.iconst X0.here hx rfl (hb hby d12_13) ?_
    show Steps p.tables e below (s₁.setTop (mkF m 14 #[.val (.ref a0), .val (.int (8 : Int32))] [(.int (1 : Int32)), (.int (8 : Int32)), (.ref a0), (.long ((((xs.getD 8 0).toInt64) &&& (255 : Int64)) <<< ((56 : Int32) &&& 0x3f).toInt64))])) t
    refine XS.iadd X0.here hx rfl (hb hby d12_14) rfl ?_
    exact kt
  obtain ⟨kk2, cl2, Ar2, qz2, S2, N2a, H2, G2⟩ := id (O_a0)
  have hin2 : ¬ ((9 : Int32) < 0 ∨ cl2.slots.size ≤ ((9 : Int32)).toNatClampNeg) := inb_of S2 (own_lt16 (n := 16) (by simp only [List.length_set, hlen]) (by decide) (by decide))
  have hat2 : cl2.slots[((9 : Int32)).toNatClampNeg]? = some (.int (xs.getD 9 0)) := H2.at hin2 (own_getv _ _)
  refine OGo.step (F' := s₁.setTop (mkF m 16 #[.val (.ref a0), .val (.int (8 : Int32))] [(.int (xs.getD 9 0)), (.long ((((xs.getD 8 0).toInt64) &&& (255 : Int64)) <<< ((56 : Int32) &&& 0x3f).toInt64))])) (fun t kt => ?_) ?_
  · show Steps p.tables e below (s₁.setTop (mkF m 15 #[.val (.ref a0), .val (.int (8 : Int32))] [(.int (9 : Int32)), (.ref a0), (.long ((((xs.getD 8 0).toInt64) &&& (255 : Int64)) <<< ((56 : Int32) &&& 0x3f).toInt64))])) t
    refine X0.baloadBytes hx (j := (9 : Int32)) (v := (.int (xs.getD 9 0))) (by rw [e0]; exact Ar2.1) (State.isArrayOf_alike hZ.alike Ar2.2.1) Ar2.2.2 hin2 hat2 (g := (mkF m 15 #[.val (.ref a0), .val (.int (8 : Int32))] [(.int (9 : Int32)), (.ref a0), (.long ((((xs.getD 8 0).toInt64) &&& (255 : Int64)) <<< ((56 : Int32) &&& 0x3f).toInt64))])) rfl rfl (hb hby d12_15) _ ?_
    exact kt
  refine OGo.step (F' := s₁.setTop (mkF m 29 #[.val (.ref a0), .val (.int (8 : Int32))] [(.int (10 : Int32)), (.ref a0), (.long (((((xs.getD 8 0).toInt64) &&& (255 : Int64)) <<< ((56 : Int32) &&& 0x3f).toInt64) ||| ((((xs.getD 9 0).toInt64) &&& (255 : Int64)) <<< ((48 : Int32) &&& 0x3f).toInt64)))])) (fun t kt => ?_) ?_
  · show Steps p.tables e below (s₁.setTop (mkF m 16 #[.val (.ref a0), .val (.int (8 : Int32))] [(.int (xs.getD 9 0)), (.long ((((xs.getD 8 0).toInt64) &&& (255 : Int64)) <<< ((56 : Int32) &&& 0x3f).toInt64))])) t
    refine XS.i2l X0.here hx rfl (hb hby d12_16) rfl ?_
    show Steps p.tables e below (s₁.setTop (mkF m 17 #[.val (.ref a0), .val (.int (8 : Int32))] [(.long ((xs.getD 9 0).toInt64)), (.long ((((xs.getD 8 0).toInt64) &&& (255 : Int64)) <<< ((56 : Int32) &&& 0x3f).toInt64))])) t
    refine X0.ldc2Long hx hown (mvT hZ (own_wd hw 73 rfl)) (g := (mkF m 17 #[.val (.ref a0), .val (.int (8 : Int32))] [(.long ((xs.getD 9 0).toInt64)), (.long ((((xs.getD 8 0).toInt64) &&& (255 : Int64)) <<< ((56 : Int32) &&& 0x3f).toInt64))])) rfl (hb hby d12_17) _ ?_
    show Steps p.tables e below (s₁.setTop (mkF m 20 #[.val (.ref a0), .val (.int (8 : Int32))] [(.long (255 : Int64)), (.long ((xs.getD 9 0).toInt64)), (.long ((((xs.getD 8 0).toInt64) &&& (255 : Int64)) <<< ((56 : Int32) &&& 0x3f).toInt64))])) t
    refine XS.land X0.here hx rfl (hb hby d12_20) rfl ?_
    show Steps p.tables e below (s₁.setTop (mkF m 21 #[.val (.ref a0), .val (.int (8 : Int32))] [(.long (((xs.getD 9 0).toInt64) &&& (255 : Int64))), (.long ((((xs.getD 8 0).toInt64) &&& (255 : Int64)) <<< ((56 : Int32) &&& 0x3f).toInt64))])) t
    refine XS.bipush X0.here hx rfl (hb hby d12_21) ?_
    show Steps p.tables e below (s₁.setTop (mkF m 23 #[.val (.ref a0), .val (.int (8 : Int32))] [(.int (48 : Int32)), (.long (((xs.getD 9 0).toInt64) &&& (255 : Int64))), (.long ((((xs.getD 8 0).toInt64) &&& (255 : Int64)) <<< ((56 : Int32) &&& 0x3f).toInt64))])) t
    refine XS.lshl X0.here hx rfl (hb hby d12_23) rfl ?_
    show Steps p.tables e below (s₁.setTop (mkF m 24 #[.val (.ref a0), .val (.int (8 : Int32))] [(.long ((((xs.getD 9 0).toInt64) &&& (255 : Int64)) <<< ((48 : Int32) &&& 0x3f).toInt64)), (.long ((((xs.getD 8 0).toInt64) &&& (255 : Int64)) <<< ((56 : Int32) &&& 0x3f).toInt64))])) t
    refine XS.lor X0.here hx rfl (hb hby d12_24) rfl ?_
    show Steps p.tables e below (s₁.setTop (mkF m 25 #[.val (.ref a0), .val (.int (8 : Int32))] [(.long (((((xs.getD 8 0).toInt64) &&& (255 : Int64)) <<< ((56 : Int32) &&& 0x3f).toInt64) ||| ((((xs.getD 9 0).toInt64) &&& (255 : Int64)) <<< ((48 : Int32) &&& 0x3f).toInt64)))])) t
    refine XS.aloadN X0.here hx rfl (hb hby d12_25) rfl rfl ?_
    show Steps p.tables e below (s₁.setTop (mkF m 26 #[.val (.ref a0), .val (.int (8 : Int32))] [(.ref a0), (.long (((((xs.getD 8 0).toInt64) &&& (255 : Int64)) <<< ((56 : Int32) &&& 0x3f).toInt64) ||| ((((xs.getD 9 0).toInt64) &&& (255 : Int64)) <<< ((48 : Int32) &&& 0x3f).toInt64)))])) t
    refine XS.iloadN X0.here hx rfl (hb hby d12_26) rfl ?_
    show Steps p.tables e below (s₁.setTop (mkF m 27 #[.val (.ref a0), .val (.int (8 : Int32))] [(.int (8 : Int32)), (.ref a0), (.long (((((xs.getD 8 0).toInt64) &&& (255 : Int64)) <<< ((56 : Int32) &&& 0x3f).toInt64) ||| ((((xs.getD 9 0).toInt64) &&& (255 : Int64)) <<< ((48 : Int32) &&& 0x3f).toInt64)))])) t
    refine XS.iconst X0.here hx rfl (hb hby d12_27) ?_
    show Steps p.tables e below (s₁.setTop (mkF m 28 #[.val (.ref a0), .val (.int (8 : Int32))] [(.int (2 : Int32)), (.int (8 : Int32)), (.ref a0), (.long (((((xs.getD 8 0).toInt64) &&& (255 : Int64)) <<< ((56 : Int32) &&& 0x3f).toInt64) ||| ((((xs.getD 9 0).toInt64) &&& (255 : Int64)) <<< ((48 : Int32) &&& 0x3f).toInt64)))])) t
    refine XS.iadd X0.here hx rfl (hb hby d12_28) rfl ?_
    exact kt
  obtain ⟨kk3, cl3, Ar3, qz3, S3, N3a, H3, G3⟩ := id (O_a0)
  have hin3 : ¬ ((10 : Int32) < 0 ∨ cl3.slots.size ≤ ((10 : Int32)).toNatClampNeg) := inb_of S3 (own_lt16 (n := 16) (by simp only [List.length_set, hlen]) (by decide) (by decide))
  have hat3 : cl3.slots[((10 : Int32)).toNatClampNeg]? = some (.int (xs.getD 10 0)) := H3.at hin3 (own_getv _ _)
  refine OGo.step (F' := s₁.setTop (mkF m 30 #[.val (.ref a0), .val (.int (8 : Int32))] [(.int (xs.getD 10 0)), (.long (((((xs.getD 8 0).toInt64) &&& (255 : Int64)) <<< ((56 : Int32) &&& 0x3f).toInt64) ||| ((((xs.getD 9 0).toInt64) &&& (255 : Int64)) <<< ((48 : Int32) &&& 0x3f).toInt64)))])) (fun t kt => ?_) ?_
  · show Steps p.tables e below (s₁.setTop (mkF m 29 #[.val (.ref a0), .val (.int (8 : Int32))] [(.int (10 : Int32)), (.ref a0), (.long (((((xs.getD 8 0).toInt64) &&& (255 : Int64)) <<< ((56 : Int32) &&& 0x3f).toInt64) ||| ((((xs.getD 9 0).toInt64) &&& (255 : Int64)) <<< ((48 : Int32) &&& 0x3f).toInt64)))])) t
    refine X0.baloadBytes hx (j := (10 : Int32)) (v := (.int (xs.getD 10 0))) (by rw [e0]; exact Ar3.1) (State.isArrayOf_alike hZ.alike Ar3.2.1) Ar3.2.2 hin3 hat3 (g := (mkF m 29 #[.val (.ref a0), .val (.int (8 : Int32))] [(.int (10 : Int32)), (.ref a0), (.long (((((xs.getD 8 0).toInt64) &&& (255 : Int64)) <<< ((56 : Int32) &&& 0x3f).toInt64) ||| ((((xs.getD 9 0).toInt64) &&& (255 : Int64)) <<< ((48 : Int32) &&& 0x3f).toInt64)))])) rfl rfl (hb hby d12_29) _ ?_
    exact kt
  refine OGo.step (F' := s₁.setTop (mkF m 43 #[.val (.ref a0), .val (.int (8 : Int32))] [(.int (11 : Int32)), (.ref a0), (.long ((((((xs.getD 8 0).toInt64) &&& (255 : Int64)) <<< ((56 : Int32) &&& 0x3f).toInt64) ||| ((((xs.getD 9 0).toInt64) &&& (255 : Int64)) <<< ((48 : Int32) &&& 0x3f).toInt64)) ||| ((((xs.getD 10 0).toInt64) &&& (255 : Int64)) <<< ((40 : Int32) &&& 0x3f).toInt64)))])) (fun t kt => ?_) ?_
  · show Steps p.tables e below (s₁.setTop (mkF m 30 #[.val (.ref a0), .val (.int (8 : Int32))] [(.int (xs.getD 10 0)), (.long (((((xs.getD 8 0).toInt64) &&& (255 : Int64)) <<< ((56 : Int32) &&& 0x3f).toInt64) ||| ((((xs.getD 9 0).toInt64) &&& (255 : Int64)) <<< ((48 : Int32) &&& 0x3f).toInt64)))])) t
    refine XS.i2l X0.here hx rfl (hb hby d12_30) rfl ?_
    show Steps p.tables e below (s₁.setTop (mkF m 31 #[.val (.ref a0), .val (.int (8 : Int32))] [(.long ((xs.getD 10 0).toInt64)), (.long (((((xs.getD 8 0).toInt64) &&& (255 : Int64)) <<< ((56 : Int32) &&& 0x3f).toInt64) ||| ((((xs.getD 9 0).toInt64) &&& (255 : Int64)) <<< ((48 : Int32) &&& 0x3f).toInt64)))])) t
    refine X0.ldc2Long hx hown (mvT hZ (own_wd hw 73 rfl)) (g := (mkF m 31 #[.val (.ref a0), .val (.int (8 : Int32))] [(.long ((xs.getD 10 0).toInt64)), (.long (((((xs.getD 8 0).toInt64) &&& (255 : Int64)) <<< ((56 : Int32) &&& 0x3f).toInt64) ||| ((((xs.getD 9 0).toInt64) &&& (255 : Int64)) <<< ((48 : Int32) &&& 0x3f).toInt64)))])) rfl (hb hby d12_31) _ ?_
    show Steps p.tables e below (s₁.setTop (mkF m 34 #[.val (.ref a0), .val (.int (8 : Int32))] [(.long (255 : Int64)), (.long ((xs.getD 10 0).toInt64)), (.long (((((xs.getD 8 0).toInt64) &&& (255 : Int64)) <<< ((56 : Int32) &&& 0x3f).toInt64) ||| ((((xs.getD 9 0).toInt64) &&& (255 : Int64)) <<< ((48 : Int32) &&& 0x3f).toInt64)))])) t
    refine XS.land X0.here hx rfl (hb hby d12_34) rfl ?_
    show Steps p.tables e below (s₁.setTop (mkF m 35 #[.val (.ref a0), .val (.int (8 : Int32))] [(.long (((xs.getD 10 0).toInt64) &&& (255 : Int64))), (.long (((((xs.getD 8 0).toInt64) &&& (255 : Int64)) <<< ((56 : Int32) &&& 0x3f).toInt64) ||| ((((xs.getD 9 0).toInt64) &&& (255 : Int64)) <<< ((48 : Int32) &&& 0x3f).toInt64)))])) t
    refine XS.bipush X0.here hx rfl (hb hby d12_35) ?_
    show Steps p.tables e below (s₁.setTop (mkF m 37 #[.val (.ref a0), .val (.int (8 : Int32))] [(.int (40 : Int32)), (.long (((xs.getD 10 0).toInt64) &&& (255 : Int64))), (.long (((((xs.getD 8 0).toInt64) &&& (255 : Int64)) <<< ((56 : Int32) &&& 0x3f).toInt64) ||| ((((xs.getD 9 0).toInt64) &&& (255 : Int64)) <<< ((48 : Int32) &&& 0x3f).toInt64)))])) t
    refine XS.lshl X0.here hx rfl (hb hby d12_37) rfl ?_
    show Steps p.tables e below (s₁.setTop (mkF m 38 #[.val (.ref a0), .val (.int (8 : Int32))] [(.long ((((xs.getD 10 0).toInt64) &&& (255 : Int64)) <<< ((40 : Int32) &&& 0x3f).toInt64)), (.long (((((xs.getD 8 0).toInt64) &&& (255 : Int64)) <<< ((56 : Int32) &&& 0x3f).toInt64) ||| ((((xs.getD 9 0).toInt64) &&& (255 : Int64)) <<< ((48 : Int32) &&& 0x3f).toInt64)))])) t
    refine XS.lor X0.here hx rfl (hb hby d12_38) rfl ?_
    show Steps p.tables e below (s₁.setTop (mkF m 39 #[.val (.ref a0), .val (.int (8 : Int32))] [(.long ((((((xs.getD 8 0).toInt64) &&& (255 : Int64)) <<< ((56 : Int32) &&& 0x3f).toInt64) ||| ((((xs.getD 9 0).toInt64) &&& (255 : Int64)) <<< ((48 : Int32) &&& 0x3f).toInt64)) ||| ((((xs.getD 10 0).toInt64) &&& (255 : Int64)) <<< ((40 : Int32) &&& 0x3f).toInt64)))])) t
    refine XS.aloadN X0.here hx rfl (hb hby d12_39) rfl rfl ?_
    show Steps p.tables e below (s₁.setTop (mkF m 40 #[.val (.ref a0), .val (.int (8 : Int32))] [(.ref a0), (.long ((((((xs.getD 8 0).toInt64) &&& (255 : Int64)) <<< ((56 : Int32) &&& 0x3f).toInt64) ||| ((((xs.getD 9 0).toInt64) &&& (255 : Int64)) <<< ((48 : Int32) &&& 0x3f).toInt64)) ||| ((((xs.getD 10 0).toInt64) &&& (255 : Int64)) <<< ((40 : Int32) &&& 0x3f).toInt64)))])) t
    refine XS.iloadN X0.here hx rfl (hb hby d12_40) rfl ?_
    show Steps p.tables e below (s₁.setTop (mkF m 41 #[.val (.ref a0), .val (.int (8 : Int32))] [(.int (8 : Int32)), (.ref a0), (.long ((((((xs.getD 8 0).toInt64) &&& (255 : Int64)) <<< ((56 : Int32) &&& 0x3f).toInt64) ||| ((((xs.getD 9 0).toInt64) &&& (255 : Int64)) <<< ((48 : Int32) &&& 0x3f).toInt64)) ||| ((((xs.getD 10 0).toInt64) &&& (255 : Int64)) <<< ((40 : Int32) &&& 0x3f).toInt64)))])) t
    refine XS.iconst X0.here hx rfl (hb hby d12_41) ?_
    show Steps p.tables e below (s₁.setTop (mkF m 42 #[.val (.ref a0), .val (.int (8 : Int32))] [(.int (3 : Int32)), (.int (8 : Int32)), (.ref a0), (.long ((((((xs.getD 8 0).toInt64) &&& (255 : Int64)) <<< ((56 : Int32) &&& 0x3f).toInt64) ||| ((((xs.getD 9 0).toInt64) &&& (255 : Int64)) <<< ((48 : Int32) &&& 0x3f).toInt64)) ||| ((((xs.getD 10 0).toInt64) &&& (255 : Int64)) <<< ((40 : Int32) &&& 0x3f).toInt64)))])) t
    refine XS.iadd X0.here hx rfl (hb hby d12_42) rfl ?_
    exact kt
  obtain ⟨kk4, cl4, Ar4, qz4, S4, N4a, H4, G4⟩ := id (O_a0)
  have hin4 : ¬ ((11 : Int32) < 0 ∨ cl4.slots.size ≤ ((11 : Int32)).toNatClampNeg) := inb_of S4 (own_lt16 (n := 16) (by simp only [List.length_set, hlen]) (by decide) (by decide))
  have hat4 : cl4.slots[((11 : Int32)).toNatClampNeg]? = some (.int (xs.getD 11 0)) := H4.at hin4 (own_getv _ _)
  refine OGo.step (F' := s₁.setTop (mkF m 44 #[.val (.ref a0), .val (.int (8 : Int32))] [(.int (xs.getD 11 0)), (.long ((((((xs.getD 8 0).toInt64) &&& (255 : Int64)) <<< ((56 : Int32) &&& 0x3f).toInt64) ||| ((((xs.getD 9 0).toInt64) &&& (255 : Int64)) <<< ((48 : Int32) &&& 0x3f).toInt64)) ||| ((((xs.getD 10 0).toInt64) &&& (255 : Int64)) <<< ((40 : Int32) &&& 0x3f).toInt64)))])) (fun t kt => ?_) ?_
  · show Steps p.tables e below (s₁.setTop (mkF m 43 #[.val (.ref a0), .val (.int (8 : Int32))] [(.int (11 : Int32)), (.ref a0), (.long ((((((xs.getD 8 0).toInt64) &&& (255 : Int64)) <<< ((56 : Int32) &&& 0x3f).toInt64) ||| ((((xs.getD 9 0).toInt64) &&& (255 : Int64)) <<< ((48 : Int32) &&& 0x3f).toInt64)) ||| ((((xs.getD 10 0).toInt64) &&& (255 : Int64)) <<< ((40 : Int32) &&& 0x3f).toInt64)))])) t
    refine X0.baloadBytes hx (j := (11 : Int32)) (v := (.int (xs.getD 11 0))) (by rw [e0]; exact Ar4.1) (State.isArrayOf_alike hZ.alike Ar4.2.1) Ar4.2.2 hin4 hat4 (g := (mkF m 43 #[.val (.ref a0), .val (.int (8 : Int32))] [(.int (11 : Int32)), (.ref a0), (.long ((((((xs.getD 8 0).toInt64) &&& (255 : Int64)) <<< ((56 : Int32) &&& 0x3f).toInt64) ||| ((((xs.getD 9 0).toInt64) &&& (255 : Int64)) <<< ((48 : Int32) &&& 0x3f).toInt64)) ||| ((((xs.getD 10 0).toInt64) &&& (255 : Int64)) <<< ((40 : Int32) &&& 0x3f).toInt64)))])) rfl rfl (hb hby d12_43) _ ?_
    exact kt
  refine OGo.step (F' := s₁.setTop (mkF m 57 #[.val (.ref a0), .val (.int (8 : Int32))] [(.int (12 : Int32)), (.ref a0), (.long (((((((xs.getD 8 0).toInt64) &&& (255 : Int64)) <<< ((56 : Int32) &&& 0x3f).toInt64) ||| ((((xs.getD 9 0).toInt64) &&& (255 : Int64)) <<< ((48 : Int32) &&& 0x3f).toInt64)) ||| ((((xs.getD 10 0).toInt64) &&& (255 : Int64)) <<< ((40 : Int32) &&& 0x3f).toInt64)) ||| ((((xs.getD 11 0).toInt64) &&& (255 : Int64)) <<< ((32 : Int32) &&& 0x3f).toInt64)))])) (fun t kt => ?_) ?_
  · show Steps p.tables e below (s₁.setTop (mkF m 44 #[.val (.ref a0), .val (.int (8 : Int32))] [(.int (xs.getD 11 0)), (.long ((((((xs.getD 8 0).toInt64) &&& (255 : Int64)) <<< ((56 : Int32) &&& 0x3f).toInt64) ||| ((((xs.getD 9 0).toInt64) &&& (255 : Int64)) <<< ((48 : Int32) &&& 0x3f).toInt64)) ||| ((((xs.getD 10 0).toInt64) &&& (255 : Int64)) <<< ((40 : Int32) &&& 0x3f).toInt64)))])) t
    refine XS.i2l X0.here hx rfl (hb hby d12_44) rfl ?_
    show Steps p.tables e below (s₁.setTop (mkF m 45 #[.val (.ref a0), .val (.int (8 : Int32))] [(.long ((xs.getD 11 0).toInt64)), (.long ((((((xs.getD 8 0).toInt64) &&& (255 : Int64)) <<< ((56 : Int32) &&& 0x3f).toInt64) ||| ((((xs.getD 9 0).toInt64) &&& (255 : Int64)) <<< ((48 : Int32) &&& 0x3f).toInt64)) ||| ((((xs.getD 10 0).toInt64) &&& (255 : Int64)) <<< ((40 : Int32) &&& 0x3f).toInt64)))])) t
    refine X0.ldc2Long hx hown (mvT hZ (own_wd hw 73 rfl)) (g := (mkF m 45 #[.val (.ref a0), .val (.int (8 : Int32))] [(.long ((xs.getD 11 0).toInt64)), (.long ((((((xs.getD 8 0).toInt64) &&& (255 : Int64)) <<< ((56 : Int32) &&& 0x3f).toInt64) ||| ((((xs.getD 9 0).toInt64) &&& (255 : Int64)) <<< ((48 : Int32) &&& 0x3f).toInt64)) ||| ((((xs.getD 10 0).toInt64) &&& (255 : Int64)) <<< ((40 : Int32) &&& 0x3f).toInt64)))])) rfl (hb hby d12_45) _ ?_
    show Steps p.tables e below (s₁.setTop (mkF m 48 #[.val (.ref a0), .val (.int (8 : Int32))] [(.long (255 : Int64)), (.long ((xs.getD 11 0).toInt64)), (.long ((((((xs.getD 8 0).toInt64) &&& (255 : Int64)) <<< ((56 : Int32) &&& 0x3f).toInt64) ||| ((((xs.getD 9 0).toInt64) &&& (255 : Int64)) <<< ((48 : Int32) &&& 0x3f).toInt64)) ||| ((((xs.getD 10 0).toInt64) &&& (255 : Int64)) <<< ((40 : Int32) &&& 0x3f).toInt64)))])) t
    refine XS.land X0.here hx rfl (hb hby d12_48) rfl ?_
    show Steps p.tables e below (s₁.setTop (mkF m 49 #[.val (.ref a0), .val (.int (8 : Int32))] [(.long (((xs.getD 11 0).toInt64) &&& (255 : Int64))), (.long ((((((xs.getD 8 0).toInt64) &&& (255 : Int64)) <<< ((56 : Int32) &&& 0x3f).toInt64) ||| ((((xs.getD 9 0).toInt64) &&& (255 : Int64)) <<< ((48 : Int32) &&& 0x3f).toInt64)) ||| ((((xs.getD 10 0).toInt64) &&& (255 : Int64)) <<< ((40 : Int32) &&& 0x3f).toInt64)))])) t
    refine XS.bipush X0.here hx rfl (hb hby d12_49) ?_
    show Steps p.tables e below (s₁.setTop (mkF m 51 #[.val (.ref a0), .val (.int (8 : Int32))] [(.int (32 : Int32)), (.long (((xs.getD 11 0).toInt64) &&& (255 : Int64))), (.long ((((((xs.getD 8 0).toInt64) &&& (255 : Int64)) <<< ((56 : Int32) &&& 0x3f).toInt64) ||| ((((xs.getD 9 0).toInt64) &&& (255 : Int64)) <<< ((48 : Int32) &&& 0x3f).toInt64)) ||| ((((xs.getD 10 0).toInt64) &&& (255 : Int64)) <<< ((40 : Int32) &&& 0x3f).toInt64)))])) t
    refine XS.lshl X0.here hx rfl (hb hby d12_51) rfl ?_
    show Steps p.tables e below (s₁.setTop (mkF m 52 #[.val (.ref a0), .val (.int (8 : Int32))] [(.long ((((xs.getD 11 0).toInt64) &&& (255 : Int64)) <<< ((32 : Int32) &&& 0x3f).toInt64)), (.long ((((((xs.getD 8 0).toInt64) &&& (255 : Int64)) <<< ((56 : Int32) &&& 0x3f).toInt64) ||| ((((xs.getD 9 0).toInt64) &&& (255 : Int64)) <<< ((48 : Int32) &&& 0x3f).toInt64)) ||| ((((xs.getD 10 0).toInt64) &&& (255 : Int64)) <<< ((40 : Int32) &&& 0x3f).toInt64)))])) t
    refine XS.lor X0.here hx rfl (hb hby d12_52) rfl ?_
    show Steps p.tables e below (s₁.setTop (mkF m 53 #[.val (.ref a0), .val (.int (8 : Int32))] [(.long (((((((xs.getD 8 0).toInt64) &&& (255 : Int64)) <<< ((56 : Int32) &&& 0x3f).toInt64) ||| ((((xs.getD 9 0).toInt64) &&& (255 : Int64)) <<< ((48 : Int32) &&& 0x3f).toInt64)) ||| ((((xs.getD 10 0).toInt64) &&& (255 : Int64)) <<< ((40 : Int32) &&& 0x3f).toInt64)) ||| ((((xs.getD 11 0).toInt64) &&& (255 : Int64)) <<< ((32 : Int32) &&& 0x3f).toInt64)))])) t
    refine XS.aloadN X0.here hx rfl (hb hby d12_53) rfl rfl ?_
    show Steps p.tables e below (s₁.setTop (mkF m 54 #[.val (.ref a0), .val (.int (8 : Int32))] [(.ref a0), (.long (((((((xs.getD 8 0).toInt64) &&& (255 : Int64)) <<< ((56 : Int32) &&& 0x3f).toInt64) ||| ((((xs.getD 9 0).toInt64) &&& (255 : Int64)) <<< ((48 : Int32) &&& 0x3f).toInt64)) ||| ((((xs.getD 10 0).toInt64) &&& (255 : Int64)) <<< ((40 : Int32) &&& 0x3f).toInt64)) ||| ((((xs.getD 11 0).toInt64) &&& (255 : Int64)) <<< ((32 : Int32) &&& 0x3f).toInt64)))])) t
    refine XS.iloadN X0.here hx rfl (hb hby d12_54) rfl ?_
    show Steps p.tables e below (s₁.setTop (mkF m 55 #[.val (.ref a0), .val (.int (8 : Int32))] [(.int (8 : Int32)), (.ref a0), (.long (((((((xs.getD 8 0).toInt64) &&& (255 : Int64)) <<< ((56 : Int32) &&& 0x3f).toInt64) ||| ((((xs.getD 9 0).toInt64) &&& (255 : Int64)) <<< ((48 : Int32) &&& 0x3f).toInt64)) ||| ((((xs.getD 10 0).toInt64) &&& (255 : Int64)) <<< ((40 : Int32) &&& 0x3f).toInt64)) ||| ((((xs.getD 11 0).toInt64) &&& (255 : Int64)) <<< ((32 : Int32) &&& 0x3f).toInt64)))])) t
    refine XS.iconst X0.here hx rfl (hb hby d12_55) ?_
    show Steps p.tables e below (s₁.setTop (mkF m 56 #[.val (.ref a0), .val (.int (8 : Int32))] [(.int (4 : Int32)), (.int (8 : Int32)), (.ref a0), (.long (((((((xs.getD 8 0).toInt64) &&& (255 : Int64)) <<< ((56 : Int32) &&& 0x3f).toInt64) ||| ((((xs.getD 9 0).toInt64) &&& (255 : Int64)) <<< ((48 : Int32) &&& 0x3f).toInt64)) ||| ((((xs.getD 10 0).toInt64) &&& (255 : Int64)) <<< ((40 : Int32) &&& 0x3f).toInt64)) ||| ((((xs.getD 11 0).toInt64) &&& (255 : Int64)) <<< ((32 : Int32) &&& 0x3f).toInt64)))])) t
    refine XS.iadd X0.here hx rfl (hb hby d12_56) rfl ?_
    exact kt
  obtain ⟨kk5, cl5, Ar5, qz5, S5, N5a, H5, G5⟩ := id (O_a0)
  have hin5 : ¬ ((12 : Int32) < 0 ∨ cl5.slots.size ≤ ((12 : Int32)).toNatClampNeg) := inb_of S5 (own_lt16 (n := 16) (by simp only [List.length_set, hlen]) (by decide) (by decide))
  have hat5 : cl5.slots[((12 : Int32)).toNatClampNeg]? = some (.int (xs.getD 12 0)) := H5.at hin5 (own_getv _ _)
  refine OGo.step (F' := s₁.setTop (mkF m 58 #[.val (.ref a0), .val (.int (8 : Int32))] [(.int (xs.getD 12 0)), (.long (((((((xs.getD 8 0).toInt64) &&& (255 : Int64)) <<< ((56 : Int32) &&& 0x3f).toInt64) ||| ((((xs.getD 9 0).toInt64) &&& (255 : Int64)) <<< ((48 : Int32) &&& 0x3f).toInt64)) ||| ((((xs.getD 10 0).toInt64) &&& (255 : Int64)) <<< ((40 : Int32) &&& 0x3f).toInt64)) ||| ((((xs.getD 11 0).toInt64) &&& (255 : Int64)) <<< ((32 : Int32) &&& 0x3f).toInt64)))])) (fun t kt => ?_) ?_
  · show Steps p.tables e below (s₁.setTop (mkF m 57 #[.val (.ref a0), .val (.int (8 : Int32))] [(.int (12 : Int32)), (.ref a0), (.long (((((((xs.getD 8 0).toInt64) &&& (255 : Int64)) <<< ((56 : Int32) &&& 0x3f).toInt64) ||| ((((xs.getD 9 0).toInt64) &&& (255 : Int64)) <<< ((48 : Int32) &&& 0x3f).toInt64)) ||| ((((xs.getD 10 0).toInt64) &&& (255 : Int64)) <<< ((40 : Int32) &&& 0x3f).toInt64)) ||| ((((xs.getD 11 0).toInt64) &&& (255 : Int64)) <<< ((32 : Int32) &&& 0x3f).toInt64)))])) t
    refine X0.baloadBytes hx (j := (12 : Int32)) (v := (.int (xs.getD 12 0))) (by rw [e0]; exact Ar5.1) (State.isArrayOf_alike hZ.alike Ar5.2.1) Ar5.2.2 hin5 hat5 (g := (mkF m 57 #[.val (.ref a0), .val (.int (8 : Int32))] [(.int (12 : Int32)), (.ref a0), (.long (((((((xs.getD 8 0).toInt64) &&& (255 : Int64)) <<< ((56 : Int32) &&& 0x3f).toInt64) ||| ((((xs.getD 9 0).toInt64) &&& (255 : Int64)) <<< ((48 : Int32) &&& 0x3f).toInt64)) ||| ((((xs.getD 10 0).toInt64) &&& (255 : Int64)) <<< ((40 : Int32) &&& 0x3f).toInt64)) ||| ((((xs.getD 11 0).toInt64) &&& (255 : Int64)) <<< ((32 : Int32) &&& 0x3f).toInt64)))])) rfl rfl (hb hby d12_57) _ ?_
    exact kt
  refine OGo.step (F' := s₁.setTop (mkF m 71 #[.val (.ref a0), .val (.int (8 : Int32))] [(.int (13 : Int32)), (.ref a0), (.long ((((((((xs.getD 8 0).toInt64) &&& (255 : Int64)) <<< ((56 : Int32) &&& 0x3f).toInt64) ||| ((((xs.getD 9 0).toInt64) &&& (255 : Int64)) <<< ((48 : Int32) &&& 0x3f).toInt64)) ||| ((((xs.getD 10 0).toInt64) &&& (255 : Int64)) <<< ((40 : Int32) &&& 0x3f).toInt64)) ||| ((((xs.getD 11 0).toInt64) &&& (255 : Int64)) <<< ((32 : Int32) &&& 0x3f).toInt64)) ||| ((((xs.getD 12 0).toInt64) &&& (255 : Int64)) <<< ((24 : Int32) &&& 0x3f).toInt64)))])) (fun t kt => ?_) ?_
  · show Steps p.tables e below (s₁.setTop (mkF m 58 #[.val (.ref a0), .val (.int (8 : Int32))] [(.int (xs.getD 12 0)), (.long (((((((xs.getD 8 0).toInt64) &&& (255 : Int64)) <<< ((56 : Int32) &&& 0x3f).toInt64) ||| ((((xs.getD 9 0).toInt64) &&& (255 : Int64)) <<< ((48 : Int32) &&& 0x3f).toInt64)) ||| ((((xs.getD 10 0).toInt64) &&& (255 : Int64)) <<< ((40 : Int32) &&& 0x3f).toInt64)) ||| ((((xs.getD 11 0).toInt64) &&& (255 : Int64)) <<< ((32 : Int32) &&& 0x3f).toInt64)))])) t
    refine XS.i2l X0.here hx rfl (hb hby d12_58) rfl ?_
    show Steps p.tables e below (s₁.setTop (mkF m 59 #[.val (.ref a0), .val (.int (8 : Int32))] [(.long ((xs.getD 12 0).toInt64)), (.long (((((((xs.getD 8 0).toInt64) &&& (255 : Int64)) <<< ((56 : Int32) &&& 0x3f).toInt64) ||| ((((xs.getD 9 0).toInt64) &&& (255 : Int64)) <<< ((48 : Int32) &&& 0x3f).toInt64)) ||| ((((xs.getD 10 0).toInt64) &&& (255 : Int64)) <<< ((40 : Int32) &&& 0x3f).toInt64)) ||| ((((xs.getD 11 0).toInt64) &&& (255 : Int64)) <<< ((32 : Int32) &&& 0x3f).toInt64)))])) t
    refine X0.ldc2Long hx hown (mvT hZ (own_wd hw 73 rfl)) (g := (mkF m 59 #[.val (.ref a0), .val (.int (8 : Int32))] [(.long ((xs.getD 12 0).toInt64)), (.long (((((((xs.getD 8 0).toInt64) &&& (255 : Int64)) <<< ((56 : Int32) &&& 0x3f).toInt64) ||| ((((xs.getD 9 0).toInt64) &&& (255 : Int64)) <<< ((48 : Int32) &&& 0x3f).toInt64)) ||| ((((xs.getD 10 0).toInt64) &&& (255 : Int64)) <<< ((40 : Int32) &&& 0x3f).toInt64)) ||| ((((xs.getD 11 0).toInt64) &&& (255 : Int64)) <<< ((32 : Int32) &&& 0x3f).toInt64)))])) rfl (hb hby d12_59) _ ?_
    show Steps p.tables e below (s₁.setTop (mkF m 62 #[.val (.ref a0), .val (.int (8 : Int32))] [(.long (255 : Int64)), (.long ((xs.getD 12 0).toInt64)), (.long (((((((xs.getD 8 0).toInt64) &&& (255 : Int64)) <<< ((56 : Int32) &&& 0x3f).toInt64) ||| ((((xs.getD 9 0).toInt64) &&& (255 : Int64)) <<< ((48 : Int32) &&& 0x3f).toInt64)) ||| ((((xs.getD 10 0).toInt64) &&& (255 : Int64)) <<< ((40 : Int32) &&& 0x3f).toInt64)) ||| ((((xs.getD 11 0).toInt64) &&& (255 : Int64)) <<< ((32 : Int32) &&& 0x3f).toInt64)))])) t
    refine XS.land X0.here hx rfl (hb hby d12_62) rfl ?_
    show Steps p.tables e below (s₁.setTop (mkF m 63 #[.val (.ref a0), .val (.int (8 : Int32))] [(.long (((xs.getD 12 0).toInt64) &&& (255 : Int64))), (.long (((((((xs.getD 8 0).toInt64) &&& (255 : Int64)) <<< ((56 : Int32) &&& 0x3f).toInt64) ||| ((((xs.getD 9 0).toInt64) &&& (255 : Int64)) <<< ((48 : Int32) &&& 0x3f).toInt64)) ||| ((((xs.getD 10 0).toInt64) &&& (255 : Int64)) <<< ((40 : Int32) &&& 0x3f).toInt64)) ||| ((((xs.getD 11 0).toInt64) &&& (255 : Int64)) <<< ((32 : Int32) &&& 0x3f).toInt64)))])) t
    refine XS.bipush X0.here hx rfl (hb hby d12_63) ?_
    show Steps p.tables e below (s₁.setTop (mkF m 65 #[.val (.ref a0), .val (.int (8 : Int32))] [(.int (24 : Int32)), (.long (((xs.getD 12 0).toInt64) &&& (255 : Int64))), (.long (((((((xs.getD 8 0).toInt64) &&& (255 : Int64)) <<< ((56 : Int32) &&& 0x3f).toInt64) ||| ((((xs.getD 9 0).toInt64) &&& (255 : Int64)) <<< ((48 : Int32) &&& 0x3f).toInt64)) ||| ((((xs.getD 10 0).toInt64) &&& (255 : Int64)) <<< ((40 : Int32) &&& 0x3f).toInt64)) ||| ((((xs.getD 11 0).toInt64) &&& (255 : Int64)) <<< ((32 : Int32) &&& 0x3f).toInt64)))])) t
    refine XS.lshl X0.here hx rfl (hb hby d12_65) rfl ?_
    show Steps p.tables e below (s₁.setTop (mkF m 66 #[.val (.ref a0), .val (.int (8 : Int32))] [(.long ((((xs.getD 12 0).toInt64) &&& (255 : Int64)) <<< ((24 : Int32) &&& 0x3f).toInt64)), (.long (((((((xs.getD 8 0).toInt64) &&& (255 : Int64)) <<< ((56 : Int32) &&& 0x3f).toInt64) ||| ((((xs.getD 9 0).toInt64) &&& (255 : Int64)) <<< ((48 : Int32) &&& 0x3f).toInt64)) ||| ((((xs.getD 10 0).toInt64) &&& (255 : Int64)) <<< ((40 : Int32) &&& 0x3f).toInt64)) ||| ((((xs.getD 11 0).toInt64) &&& (255 : Int64)) <<< ((32 : Int32) &&& 0x3f).toInt64)))])) t
    refine XS.lor X0.here hx rfl (hb hby d12_66) rfl ?_
    show Steps p.tables e below (s₁.setTop (mkF m 67 #[.val (.ref a0), .val (.int (8 : Int32))] [(.long ((((((((xs.getD 8 0).toInt64) &&& (255 : Int64)) <<< ((56 : Int32) &&& 0x3f).toInt64) ||| ((((xs.getD 9 0).toInt64) &&& (255 : Int64)) <<< ((48 : Int32) &&& 0x3f).toInt64)) ||| ((((xs.getD 10 0).toInt64) &&& (255 : Int64)) <<< ((40 : Int32) &&& 0x3f).toInt64)) ||| ((((xs.getD 11 0).toInt64) &&& (255 : Int64)) <<< ((32 : Int32) &&& 0x3f).toInt64)) ||| ((((xs.getD 12 0).toInt64) &&& (255 : Int64)) <<< ((24 : Int32) &&& 0x3f).toInt64)))])) t
    refine XS.aloadN X0.here hx rfl (hb hby d12_67) rfl rfl ?_
    show Steps p.tables e below (s₁.setTop (mkF m 68 #[.val (.ref a0), .val (.int (8 : Int32))] [(.ref a0), (.long ((((((((xs.getD 8 0).toInt64) &&& (255 : Int64)) <<< ((56 : Int32) &&& 0x3f).toInt64) ||| ((((xs.getD 9 0).toInt64) &&& (255 : Int64)) <<< ((48 : Int32) &&& 0x3f).toInt64)) ||| ((((xs.getD 10 0).toInt64) &&& (255 : Int64)) <<< ((40 : Int32) &&& 0x3f).toInt64)) ||| ((((xs.getD 11 0).toInt64) &&& (255 : Int64)) <<< ((32 : Int32) &&& 0x3f).toInt64)) ||| ((((xs.getD 12 0).toInt64) &&& (255 : Int64)) <<< ((24 : Int32) &&& 0x3f).toInt64)))])) t
    refine XS.iloadN X0.here hx rfl (hb hby d12_68) rfl ?_
    show Steps p.tables e below (s₁.setTop (mkF m 69 #[.val (.ref a0), .val (.int (8 : Int32))] [(.int (8 : Int32)), (.ref a0), (.long ((((((((xs.getD 8 0).toInt64) &&& (255 : Int64)) <<< ((56 : Int32) &&& 0x3f).toInt64) ||| ((((xs.getD 9 0).toInt64) &&& (255 : Int64)) <<< ((48 : Int32) &&& 0x3f).toInt64)) ||| ((((xs.getD 10 0).toInt64) &&& (255 : Int64)) <<< ((40 : Int32) &&& 0x3f).toInt64)) ||| ((((xs.getD 11 0).toInt64) &&& (255 : Int64)) <<< ((32 : Int32) &&& 0x3f).toInt64)) ||| ((((xs.getD 12 0).toInt64) &&& (255 : Int64)) <<< ((24 : Int32) &&& 0x3f).toInt64)))])) t
    refine XS.iconst X0.here hx rfl (hb hby d12_69) ?_
    show Steps p.tables e below (s₁.setTop (mkF m 70 #[.val (.ref a0), .val (.int (8 : Int32))] [(.int (5 : Int32)), (.int (8 : Int32)), (.ref a0), (.long ((((((((xs.getD 8 0).toInt64) &&& (255 : Int64)) <<< ((56 : Int32) &&& 0x3f).toInt64) ||| ((((xs.getD 9 0).toInt64) &&& (255 : Int64)) <<< ((48 : Int32) &&& 0x3f).toInt64)) ||| ((((xs.getD 10 0).toInt64) &&& (255 : Int64)) <<< ((40 : Int32) &&& 0x3f).toInt64)) ||| ((((xs.getD 11 0).toInt64) &&& (255 : Int64)) <<< ((32 : Int32) &&& 0x3f).toInt64)) ||| ((((xs.getD 12 0).toInt64) &&& (255 : Int64)) <<< ((24 : Int32) &&& 0x3f).toInt64)))])) t
    refine XS.iadd X0.here hx rfl (hb hby d12_70) rfl ?_
    exact kt
  obtain ⟨kk6, cl6, Ar6, qz6, S6, N6a, H6, G6⟩ := id (O_a0)
  have hin6 : ¬ ((13 : Int32) < 0 ∨ cl6.slots.size ≤ ((13 : Int32)).toNatClampNeg) := inb_of S6 (own_lt16 (n := 16) (by simp only [List.length_set, hlen]) (by decide) (by decide))
  have hat6 : cl6.slots[((13 : Int32)).toNatClampNeg]? = some (.int (xs.getD 13 0)) := H6.at hin6 (own_getv _ _)
  refine OGo.step (F' := s₁.setTop (mkF m 72 #[.val (.ref a0), .val (.int (8 : Int32))] [(.int (xs.getD 13 0)), (.long ((((((((xs.getD 8 0).toInt64) &&& (255 : Int64)) <<< ((56 : Int32) &&& 0x3f).toInt64) ||| ((((xs.getD 9 0).toInt64) &&& (255 : Int64)) <<< ((48 : Int32) &&& 0x3f).toInt64)) ||| ((((xs.getD 10 0).toInt64) &&& (255 : Int64)) <<< ((40 : Int32) &&& 0x3f).toInt64)) ||| ((((xs.getD 11 0).toInt64) &&& (255 : Int64)) <<< ((32 : Int32) &&& 0x3f).toInt64)) ||| ((((xs.getD 12 0).toInt64) &&& (255 : Int64)) <<< ((24 : Int32) &&& 0x3f).toInt64)))])) (fun t kt => ?_) ?_
  · show Steps p.tables e below (s₁.setTop (mkF m 71 #[.val (.ref a0), .val (.int (8 : Int32))] [(.int (13 : Int32)), (.ref a0), (.long ((((((((xs.getD 8 0).toInt64) &&& (255 : Int64)) <<< ((56 : Int32) &&& 0x3f).toInt64) ||| ((((xs.getD 9 0).toInt64) &&& (255 : Int64)) <<< ((48 : Int32) &&& 0x3f).toInt64)) ||| ((((xs.getD 10 0).toInt64) &&& (255 : Int64)) <<< ((40 : Int32) &&& 0x3f).toInt64)) ||| ((((xs.getD 11 0).toInt64) &&& (255 : Int64)) <<< ((32 : Int32) &&& 0x3f).toInt64)) ||| ((((xs.getD 12 0).toInt64) &&& (255 : Int64)) <<< ((24 : Int32) &&& 0x3f).toInt64)))])) t
    refine X0.baloadBytes hx (j := (13 : Int32)) (v := (.int (xs.getD 13 0))) (by rw [e0]; exact Ar6.1) (State.isArrayOf_alike hZ.alike Ar6.2.1) Ar6.2.2 hin6 hat6 (g := (mkF m 71 #[.val (.ref a0), .val (.int (8 : Int32))] [(.int (13 : Int32)), (.ref a0), (.long ((((((((xs.getD 8 0).toInt64) &&& (255 : Int64)) <<< ((56 : Int32) &&& 0x3f).toInt64) ||| ((((xs.getD 9 0).toInt64) &&& (255 : Int64)) <<< ((48 : Int32) &&& 0x3f).toInt64)) ||| ((((xs.getD 10 0).toInt64) &&& (255 : Int64)) <<< ((40 : Int32) &&& 0x3f).toInt64)) ||| ((((xs.getD 11 0).toInt64) &&& (255 : Int64)) <<< ((32 : Int32) &&& 0x3f).toInt64)) ||| ((((xs.getD 12 0).toInt64) &&& (255 : Int64)) <<< ((24 : Int32) &&& 0x3f).toInt64)))])) rfl rfl (hb hby d12_71) _ ?_
    exact kt
  refine OGo.step (F' := s₁.setTop (mkF m 86 #[.val (.ref a0), .val (.int (8 : Int32))] [(.int (14 : Int32)), (.ref a0), (.long (((((((((xs.getD 8 0).toInt64) &&& (255 : Int64)) <<< ((56 : Int32) &&& 0x3f).toInt64) ||| ((((xs.getD 9 0).toInt64) &&& (255 : Int64)) <<< ((48 : Int32) &&& 0x3f).toInt64)) ||| ((((xs.getD 10 0).toInt64) &&& (255 : Int64)) <<< ((40 : Int32) &&& 0x3f).toInt64)) ||| ((((xs.getD 11 0).toInt64) &&& (255 : Int64)) <<< ((32 : Int32) &&& 0x3f).toInt64)) ||| ((((xs.getD 12 0).toInt64) &&& (255 : Int64)) <<< ((24 : Int32) &&& 0x3f).toInt64)) ||| ((((xs.getD 13 0).toInt64) &&& (255 : Int64)) <<< ((16 : Int32) &&& 0x3f).toInt64)))])) (fun t kt => ?_) ?_
  · show Steps p.tables e below (s₁.setTop (mkF m 72 #[.val (.ref a0), .val (.int (8 : Int32))] [(.int (xs.getD 13 0)), (.long ((((((((xs.getD 8 0).toInt64) &&& (255 : Int64)) <<< ((56 : Int32) &&& 0x3f).toInt64) ||| ((((xs.getD 9 0).toInt64) &&& (255 : Int64)) <<< ((48 : Int32) &&& 0x3f).toInt64)) ||| ((((xs.getD 10 0).toInt64) &&& (255 : Int64)) <<< ((40 : Int32) &&& 0x3f).toInt64)) ||| ((((xs.getD 11 0).toInt64) &&& (255 : Int64)) <<< ((32 : Int32) &&& 0x3f).toInt64)) ||| ((((xs.getD 12 0).toInt64) &&& (255 : Int64)) <<< ((24 : Int32) &&& 0x3f).toInt64)))])) t
    refine XS.i2l X0.here hx rfl (hb hby d12_72) rfl ?_
    show Steps p.tables e below (s₁.setTop (mkF m 73 #[.val (.ref a0), .val (.int (8 : Int32))] [(.long ((xs.getD 13 0).toInt64)), (.long ((((((((xs.getD 8 0).toInt64) &&& (255 : Int64)) <<< ((56 : Int32) &&& 0x3f).toInt64) ||| ((((xs.getD 9 0).toInt64) &&& (255 : Int64)) <<< ((48 : Int32) &&& 0x3f).toInt64)) ||| ((((xs.getD 10 0).toInt64) &&& (255 : Int64)) <<< ((40 : Int32) &&& 0x3f).toInt64)) ||| ((((xs.getD 11 0).toInt64) &&& (255 : Int64)) <<< ((32 : Int32) &&& 0x3f).toInt64)) ||| ((((xs.getD 12 0).toInt64) &&& (255 : Int64)) <<< ((24 : Int32) &&& 0x3f).toInt64)))])) t
    refine X0.ldc2Long hx hown (mvT hZ (own_wd hw 73 rfl)) (g := (mkF m 73 #[.val (.ref a0), .val (.int (8 : Int32))] [(.long ((xs.getD 13 0).toInt64)), (.long ((((((((xs.getD 8 0).toInt64) &&& (255 : Int64)) <<< ((56 : Int32) &&& 0x3f).toInt64) ||| ((((xs.getD 9 0).toInt64) &&& (255 : Int64)) <<< ((48 : Int32) &&& 0x3f).toInt64)) ||| ((((xs.getD 10 0).toInt64) &&& (255 : Int64)) <<< ((40 : Int32) &&& 0x3f).toInt64)) ||| ((((xs.getD 11 0).toInt64) &&& (255 : Int64)) <<< ((32 : Int32) &&& 0x3f).toInt64)) ||| ((((xs.getD 12 0).toInt64) &&& (255 : Int64)) <<< ((24 : Int32) &&& 0x3f).toInt64)))])) rfl (hb hby d12_73) _ ?_
    show Steps p.tables e below (s₁.setTop (mkF m 76 #[.val (.ref a0), .val (.int (8 : Int32))] [(.long (255 : Int64)), (.long ((xs.getD 13 0).toInt64)), (.long ((((((((xs.getD 8 0).toInt64) &&& (255 : Int64)) <<< ((56 : Int32) &&& 0x3f).toInt64) ||| ((((xs.getD 9 0).toInt64) &&& (255 : Int64)) <<< ((48 : Int32) &&& 0x3f).toInt64)) ||| ((((xs.getD 10 0).toInt64) &&& (255 : Int64)) <<< ((40 : Int32) &&& 0x3f).toInt64)) ||| ((((xs.getD 11 0).toInt64) &&& (255 : Int64)) <<< ((32 : Int32) &&& 0x3f).toInt64)) ||| ((((xs.getD 12 0).toInt64) &&& (255 : Int64)) <<< ((24 : Int32) &&& 0x3f).toInt64)))])) t
    refine XS.land X0.here hx rfl (hb hby d12_76) rfl ?_
    show Steps p.tables e below (s₁.setTop (mkF m 77 #[.val (.ref a0), .val (.int (8 : Int32))] [(.long (((xs.getD 13 0).toInt64) &&& (255 : Int64))), (.long ((((((((xs.getD 8 0).toInt64) &&& (255 : Int64)) <<< ((56 : Int32) &&& 0x3f).toInt64) ||| ((((xs.getD 9 0).toInt64) &&& (255 : Int64)) <<< ((48 : Int32) &&& 0x3f).toInt64)) ||| ((((xs.getD 10 0).toInt64) &&& (255 : Int64)) <<< ((40 : Int32) &&& 0x3f).toInt64)) ||| ((((xs.getD 11 0).toInt64) &&& (255 : Int64)) <<< ((32 : Int32) &&& 0x3f).toInt64)) ||| ((((xs.getD 12 0).toInt64) &&& (255 : Int64)) <<< ((24 : Int32) &&& 0x3f).toInt64)))])) t
    refine XS.bipush X0.here hx rfl (hb hby d12_77) ?_
    show Steps p.tables e below (s₁.setTop (mkF m 79 #[.val (.ref a0), .val (.int (8 : Int32))] [(.int (16 : Int32)), (.long (((xs.getD 13 0).toInt64) &&& (255 : Int64))), (.long ((((((((xs.getD 8 0).toInt64) &&& (255 : Int64)) <<< ((56 : Int32) &&& 0x3f).toInt64) ||| ((((xs.getD 9 0).toInt64) &&& (255 : Int64)) <<< ((48 : Int32) &&& 0x3f).toInt64)) ||| ((((xs.getD 10 0).toInt64) &&& (255 : Int64)) <<< ((40 : Int32) &&& 0x3f).toInt64)) ||| ((((xs.getD 11 0).toInt64) &&& (255 : Int64)) <<< ((32 : Int32) &&& 0x3f).toInt64)) ||| ((((xs.getD 12 0).toInt64) &&& (255 : Int64)) <<< ((24 : Int32) &&& 0x3f).toInt64)))])) t
    refine XS.lshl X0.here hx rfl (hb hby d12_79) rfl ?_
    show Steps p.tables e below (s₁.setTop (mkF m 80 #[.val (.ref a0), .val (.int (8 : Int32))] [(.long ((((xs.getD 13 0).toInt64) &&& (255 : Int64)) <<< ((16 : Int32) &&& 0x3f).toInt64)), (.long ((((((((xs.getD 8 0).toInt64) &&& (255 : Int64)) <<< ((56 : Int32) &&& 0x3f).toInt64) ||| ((((xs.getD 9 0).toInt64) &&& (255 : Int64)) <<< ((48 : Int32) &&& 0x3f).toInt64)) ||| ((((xs.getD 10 0).toInt64) &&& (255 : Int64)) <<< ((40 : Int32) &&& 0x3f).toInt64)) ||| ((((xs.getD 11 0).toInt64) &&& (255 : Int64)) <<< ((32 : Int32) &&& 0x3f).toInt64)) ||| ((((xs.getD 12 0).toInt64) &&& (255 : Int64)) <<< ((24 : Int32) &&& 0x3f).toInt64)))])) t
    refine XS.lor X0.here hx rfl (hb hby d12_80) rfl ?_
    show Steps p.tables e below (s₁.setTop (mkF m 81 #[.val (.ref a0), .val (.int (8 : Int32))] [(.long (((((((((xs.getD 8 0).toInt64) &&& (255 : Int64)) <<< ((56 : Int32) &&& 0x3f).toInt64) ||| ((((xs.getD 9 0).toInt64) &&& (255 : Int64)) <<< ((48 : Int32) &&& 0x3f).toInt64)) ||| ((((xs.getD 10 0).toInt64) &&& (255 : Int64)) <<< ((40 : Int32) &&& 0x3f).toInt64)) ||| ((((xs.getD 11 0).toInt64) &&& (255 : Int64)) <<< ((32 : Int32) &&& 0x3f).toInt64)) ||| ((((xs.getD 12 0).toInt64) &&& (255 : Int64)) <<< ((24 : Int32) &&& 0x3f).toInt64)) ||| ((((xs.getD 13 0).toInt64) &&& (255 : Int64)) <<< ((16 : Int32) &&& 0x3f).toInt64)))])) t
    refine XS.aloadN X0.here hx rfl (hb hby d12_81) rfl rfl ?_
    show Steps p.tables e below (s₁.setTop (mkF m 82 #[.val (.ref a0), .val (.int (8 : Int32))] [(.ref a0), (.long (((((((((xs.getD 8 0).toInt64) &&& (255 : Int64)) <<< ((56 : Int32) &&& 0x3f).toInt64) ||| ((((xs.getD 9 0).toInt64) &&& (255 : Int64)) <<< ((48 : Int32) &&& 0x3f).toInt64)) ||| ((((xs.getD 10 0).toInt64) &&& (255 : Int64)) <<< ((40 : Int32) &&& 0x3f).toInt64)) ||| ((((xs.getD 11 0).toInt64) &&& (255 : Int64)) <<< ((32 : Int32) &&& 0x3f).toInt64)) ||| ((((xs.getD 12 0).toInt64) &&& (255 : Int64)) <<< ((24 : Int32) &&& 0x3f).toInt64)) ||| ((((xs.getD 13 0).toInt64) &&& (255 : Int64)) <<< ((16 : Int32) &&& 0x3f).toInt64)))])) t
    refine XS.iloadN X0.here hx rfl (hb hby d12_82) rfl ?_
    show Steps p.tables e below (s₁.setTop (mkF m 83 #[.val (.ref a0), .val (.int (8 : Int32))] [(.int (8 : Int32)), (.ref a0), (.long (((((((((xs.getD 8 0).toInt64) &&& (255 : Int64)) <<< ((56 : Int32) &&& 0x3f).toInt64) ||| ((((xs.getD 9 0).toInt64) &&& (255 : Int64)) <<< ((48 : Int32) &&& 0x3f).toInt64)) ||| ((((xs.getD 10 0).toInt64) &&& (255 : Int64)) <<< ((40 : Int32) &&& 0x3f).toInt64)) ||| ((((xs.getD 11 0).toInt64) &&& (255 : Int64)) <<< ((32 : Int32) &&& 0x3f).toInt64)) ||| ((((xs.getD 12 0).toInt64) &&& (255 : Int64)) <<< ((24 : Int32) &&& 0x3f).toInt64)) ||| ((((xs.getD 13 0).toInt64) &&& (255 : Int64)) <<< ((16 : Int32) &&& 0x3f).toInt64)))])) t
    refine XS.bipush X0.here hx rfl (hb hby d12_83) ?_
    show Steps p.tables e below (s₁.setTop (mkF m 85 #[.val (.ref a0), .val (.int (8 : Int32))] [(.int (6 : Int32)), (.int (8 : Int32)), (.ref a0), (.long (((((((((xs.getD 8 0).toInt64) &&& (255 : Int64)) <<< ((56 : Int32) &&& 0x3f).toInt64) ||| ((((xs.getD 9 0).toInt64) &&& (255 : Int64)) <<< ((48 : Int32) &&& 0x3f).toInt64)) ||| ((((xs.getD 10 0).toInt64) &&& (255 : Int64)) <<< ((40 : Int32) &&& 0x3f).toInt64)) ||| ((((xs.getD 11 0).toInt64) &&& (255 : Int64)) <<< ((32 : Int32) &&& 0x3f).toInt64)) ||| ((((xs.getD 12 0).toInt64) &&& (255 : Int64)) <<< ((24 : Int32) &&& 0x3f).toInt64)) ||| ((((xs.getD 13 0).toInt64) &&& (255 : Int64)) <<< ((16 : Int32) &&& 0x3f).toInt64)))])) t
    refine XS.iadd X0.here hx rfl (hb hby d12_85) rfl ?_
    exact kt
  obtain ⟨kk7, cl7, Ar7, qz7, S7, N7a, H7, G7⟩ := id (O_a0)
  have hin7 : ¬ ((14 : Int32) < 0 ∨ cl7.slots.size ≤ ((14 : Int32)).toNatClampNeg) := inb_of S7 (own_lt16 (n := 16) (by simp only [List.length_set, hlen]) (by decide) (by decide))
  have hat7 : cl7.slots[((14 : Int32)).toNatClampNeg]? = some (.int (xs.getD 14 0)) := H7.at hin7 (own_getv _ _)
  refine OGo.step (F' := s₁.setTop (mkF m 87 #[.val (.ref a0), .val (.int (8 : Int32))] [(.int (xs.getD 14 0)), (.long (((((((((xs.getD 8 0).toInt64) &&& (255 : Int64)) <<< ((56 : Int32) &&& 0x3f).toInt64) ||| ((((xs.getD 9 0).toInt64) &&& (255 : Int64)) <<< ((48 : Int32) &&& 0x3f).toInt64)) ||| ((((xs.getD 10 0).toInt64) &&& (255 : Int64)) <<< ((40 : Int32) &&& 0x3f).toInt64)) ||| ((((xs.getD 11 0).toInt64) &&& (255 : Int64)) <<< ((32 : Int32) &&& 0x3f).toInt64)) ||| ((((xs.getD 12 0).toInt64) &&& (255 : Int64)) <<< ((24 : Int32) &&& 0x3f).toInt64)) ||| ((((xs.getD 13 0).toInt64) &&& (255 : Int64)) <<< ((16 : Int32) &&& 0x3f).toInt64)))])) (fun t kt => ?_) ?_
  · show Steps p.tables e below (s₁.setTop (mkF m 86 #[.val (.ref a0), .val (.int (8 : Int32))] [(.int (14 : Int32)), (.ref a0), (.long (((((((((xs.getD 8 0).toInt64) &&& (255 : Int64)) <<< ((56 : Int32) &&& 0x3f).toInt64) ||| ((((xs.getD 9 0).toInt64) &&& (255 : Int64)) <<< ((48 : Int32) &&& 0x3f).toInt64)) ||| ((((xs.getD 10 0).toInt64) &&& (255 : Int64)) <<< ((40 : Int32) &&& 0x3f).toInt64)) ||| ((((xs.getD 11 0).toInt64) &&& (255 : Int64)) <<< ((32 : Int32) &&& 0x3f).toInt64)) ||| ((((xs.getD 12 0).toInt64) &&& (255 : Int64)) <<< ((24 : Int32) &&& 0x3f).toInt64)) ||| ((((xs.getD 13 0).toInt64) &&& (255 : Int64)) <<< ((16 : Int32) &&& 0x3f).toInt64)))])) t
    refine X0.baloadBytes hx (j := (14 : Int32)) (v := (.int (xs.getD 14 0))) (by rw [e0]; exact Ar7.1) (State.isArrayOf_alike hZ.alike Ar7.2.1) Ar7.2.2 hin7 hat7 (g := (mkF m 86 #[.val (.ref a0), .val (.int (8 : Int32))] [(.int (14 : Int32)), (.ref a0), (.long (((((((((xs.getD 8 0).toInt64) &&& (255 : Int64)) <<< ((56 : Int32) &&& 0x3f).toInt64) ||| ((((xs.getD 9 0).toInt64) &&& (255 : Int64)) <<< ((48 : Int32) &&& 0x3f).toInt64)) ||| ((((xs.getD 10 0).toInt64) &&& (255 : Int64)) <<< ((40 : Int32) &&& 0x3f).toInt64)) ||| ((((xs.getD 11 0).toInt64) &&& (255 : Int64)) <<< ((32 : Int32) &&& 0x3f).toInt64)) ||| ((((xs.getD 12 0).toInt64) &&& (255 : Int64)) <<< ((24 : Int32) &&& 0x3f).toInt64)) ||| ((((xs.getD 13 0).toInt64) &&& (255 : Int64)) <<< ((16 : Int32) &&& 0x3f).toInt64)))])) rfl rfl (hb hby d12_86) _ ?_
    exact kt
  refine OGo.step (F' := s₁.setTop (mkF m 101 #[.val (.ref a0), .val (.int (8 : Int32))] [(.int (15 : Int32)), (.ref a0), (.long ((((((((((xs.getD 8 0).toInt64) &&& (255 : Int64)) <<< ((56 : Int32) &&& 0x3f).toInt64) ||| ((((xs.getD 9 0).toInt64) &&& (255 : Int64)) <<< ((48 : Int32) &&& 0x3f).toInt64)) ||| ((((xs.getD 10 0).toInt64) &&& (255 : Int64)) <<< ((40 : Int32) &&& 0x3f).toInt64)) ||| ((((xs.getD 11 0).toInt64) &&& (255 : Int64)) <<< ((32 : Int32) &&& 0x3f).toInt64)) ||| ((((xs.getD 12 0).toInt64) &&& (255 : Int64)) <<< ((24 : Int32) &&& 0x3f).toInt64)) ||| ((((xs.getD 13 0).toInt64) &&& (255 : Int64)) <<< ((16 : Int32) &&& 0x3f).toInt64)) ||| ((((xs.getD 14 0).toInt64) &&& (255 : Int64)) <<< ((8 : Int32) &&& 0x3f).toInt64)))])) (fun t kt => ?_) ?_
  · show Steps p.tables e below (s₁.setTop (mkF m 87 #[.val (.ref a0), .val (.int (8 : Int32))] [(.int (xs.getD 14 0)), (.long (((((((((xs.getD 8 0).toInt64) &&& (255 : Int64)) <<< ((56 : Int32) &&& 0x3f).toInt64) ||| ((((xs.getD 9 0).toInt64) &&& (255 : Int64)) <<< ((48 : Int32) &&& 0x3f).toInt64)) ||| ((((xs.getD 10 0).toInt64) &&& (255 : Int64)) <<< ((40 : Int32) &&& 0x3f).toInt64)) ||| ((((xs.getD 11 0).toInt64) &&& (255 : Int64)) <<< ((32 : Int32) &&& 0x3f).toInt64)) ||| ((((xs.getD 12 0).toInt64) &&& (255 : Int64)) <<< ((24 : Int32) &&& 0x3f).toInt64)) ||| ((((xs.getD 13 0).toInt64) &&& (255 : Int64)) <<< ((16 : Int32) &&& 0x3f).toInt64)))])) t
    refine XS.i2l X0.here hx rfl (hb hby d12_87) rfl ?_
    show Steps p.tables e below (s₁.setTop (mkF m 88 #[.val (.ref a0), .val (.int (8 : Int32))] [(.long ((xs.getD 14 0).toInt64)), (.long (((((((((xs.getD 8 0).toInt64) &&& (255 : Int64)) <<< ((56 : Int32) &&& 0x3f).toInt64) ||| ((((xs.getD 9 0).toInt64) &&& (255 : Int64)) <<< ((48 : Int32) &&& 0x3f).toInt64)) ||| ((((xs.getD 10 0).toInt64) &&& (255 : Int64)) <<< ((40 : Int32) &&& 0x3f).toInt64)) ||| ((((xs.getD 11 0).toInt64) &&& (255 : Int64)) <<< ((32 : Int32) &&& 0x3f).toInt64)) ||| ((((xs.getD 12 0).toInt64) &&& (255 : Int64)) <<< ((24 : Int32) &&& 0x3f).toInt64)) ||| ((((xs.getD 13 0).toInt64) &&& (255 : Int64)) <<< ((16 : Int32) &&& 0x3f).toInt64)))])) t
    refine X0.ldc2Long hx hown (mvT hZ (own_wd hw 73 rfl)) (g := (mkF m 88 #[.val (.ref a0), .val (.int (8 : Int32))] [(.long ((xs.getD 14 0).toInt64)), (.long (((((((((xs.getD 8 0).toInt64) &&& (255 : Int64)) <<< ((56 : Int32) &&& 0x3f).toInt64) ||| ((((xs.getD 9 0).toInt64) &&& (255 : Int64)) <<< ((48 : Int32) &&& 0x3f).toInt64)) ||| ((((xs.getD 10 0).toInt64) &&& (255 : Int64)) <<< ((40 : Int32) &&& 0x3f).toInt64)) ||| ((((xs.getD 11 0).toInt64) &&& (255 : Int64)) <<< ((32 : Int32) &&& 0x3f).toInt64)) ||| ((((xs.getD 12 0).toInt64) &&& (255 : Int64)) <<< ((24 : Int32) &&& 0x3f).toInt64)) ||| ((((xs.getD 13 0).toInt64) &&& (255 : Int64)) <<< ((16 : Int32) &&& 0x3f).toInt64)))])) rfl (hb hby d12_88) _ ?_
    show Steps p.tables e below (s₁.setTop (mkF m 91 #[.val (.ref a0), .val (.int (8 : Int32))] [(.long (255 : Int64)), (.long ((xs.getD 14 0).toInt64)), (.long (((((((((xs.getD 8 0).toInt64) &&& (255 : Int64)) <<< ((56 : Int32) &&& 0x3f).toInt64) ||| ((((xs.getD 9 0).toInt64) &&& (255 : Int64)) <<< ((48 : Int32) &&& 0x3f).toInt64)) ||| ((((xs.getD 10 0).toInt64) &&& (255 : Int64)) <<< ((40 : Int32) &&& 0x3f).toInt64)) ||| ((((xs.getD 11 0).toInt64) &&& (255 : Int64)) <<< ((32 : Int32) &&& 0x3f).toInt64)) ||| ((((xs.getD 12 0).toInt64) &&& (255 : Int64)) <<< ((24 : Int32) &&& 0x3f).toInt64)) ||| ((((xs.getD 13 0).toInt64) &&& (255 : Int64)) <<< ((16 : Int32) &&& 0x3f).toInt64)))])) t
    refine XS.land X0.here hx rfl (hb hby d12_91) rfl ?_
    show Steps p.tables e below (s₁.setTop (mkF m 92 #[.val (.ref a0), .val (.int (8 : Int32))] [(.long (((xs.getD 14 0).toInt64) &&& (255 : Int64))), (.long (((((((((xs.getD 8 0).toInt64) &&& (255 : Int64)) <<< ((56 : Int32) &&& 0x3f).toInt64) ||| ((((xs.getD 9 0).toInt64) &&& (255 : Int64)) <<< ((48 : Int32) &&& 0x3f).toInt64)) ||| ((((xs.getD 10 0).toInt64) &&& (255 : Int64)) <<< ((40 : Int32) &&& 0x3f).toInt64)) ||| ((((xs.getD 11 0).toInt64) &&& (255 : Int64)) <<< ((32 : Int32) &&& 0x3f).toInt64)) ||| ((((xs.getD 12 0).toInt64) &&& (255 : Int64)) <<< ((24 : Int32) &&& 0x3f).toInt64)) ||| ((((xs.getD 13 0).toInt64) &&& (255 : Int64)) <<< ((16 : Int32) &&& 0x3f).toInt64)))])) t
    refine XS.bipush X0.here hx rfl (hb hby d12_92) ?_
    show Steps p.tables e below (s₁.setTop (mkF m 94 #[.val (.ref a0), .val (.int (8 : Int32))] [(.int (8 : Int32)), (.long (((xs.getD 14 0).toInt64) &&& (255 : Int64))), (.long (((((((((xs.getD 8 0).toInt64) &&& (255 : Int64)) <<< ((56 : Int32) &&& 0x3f).toInt64) ||| ((((xs.getD 9 0).toInt64) &&& (255 : Int64)) <<< ((48 : Int32) &&& 0x3f).toInt64)) ||| ((((xs.getD 10 0).toInt64) &&& (255 : Int64)) <<< ((40 : Int32) &&& 0x3f).toInt64)) ||| ((((xs.getD 11 0).toInt64) &&& (255 : Int64)) <<< ((32 : Int32) &&& 0x3f).toInt64)) ||| ((((xs.getD 12 0).toInt64) &&& (255 : Int64)) <<< ((24 : Int32) &&& 0x3f).toInt64)) ||| ((((xs.getD 13 0).toInt64) &&& (255 : Int64)) <<< ((16 : Int32) &&& 0x3f).toInt64)))])) t
    refine XS.lshl X0.here hx rfl (hb hby d12_94) rfl ?_
    show Steps p.tables e below (s₁.setTop (mkF m 95 #[.val (.ref a0), .val (.int (8 : Int32))] [(.long ((((xs.getD 14 0).toInt64) &&& (255 : Int64)) <<< ((8 : Int32) &&& 0x3f).toInt64)), (.long (((((((((xs.getD 8 0).toInt64) &&& (255 : Int64)) <<< ((56 : Int32) &&& 0x3f).toInt64) ||| ((((xs.getD 9 0).toInt64) &&& (255 : Int64)) <<< ((48 : Int32) &&& 0x3f).toInt64)) ||| ((((xs.getD 10 0).toInt64) &&& (255 : Int64)) <<< ((40 : Int32) &&& 0x3f).toInt64)) ||| ((((xs.getD 11 0).toInt64) &&& (255 : Int64)) <<< ((32 : Int32) &&& 0x3f).toInt64)) ||| ((((xs.getD 12 0).toInt64) &&& (255 : Int64)) <<< ((24 : Int32) &&& 0x3f).toInt64)) ||| ((((xs.getD 13 0).toInt64) &&& (255 : Int64)) <<< ((16 : Int32) &&& 0x3f).toInt64)))])) t
    refine XS.lor X0.here hx rfl (hb hby d12_95) rfl ?_
    show Steps p.tables e below (s₁.setTop (mkF m 96 #[.val (.ref a0), .val (.int (8 : Int32))] [(.long ((((((((((xs.getD 8 0).toInt64) &&& (255 : Int64)) <<< ((56 : Int32) &&& 0x3f).toInt64) ||| ((((xs.getD 9 0).toInt64) &&& (255 : Int64)) <<< ((48 : Int32) &&& 0x3f).toInt64)) ||| ((((xs.getD 10 0).toInt64) &&& (255 : Int64)) <<< ((40 : Int32) &&& 0x3f).toInt64)) ||| ((((xs.getD 11 0).toInt64) &&& (255 : Int64)) <<< ((32 : Int32) &&& 0x3f).toInt64)) ||| ((((xs.getD 12 0).toInt64) &&& (255 : Int64)) <<< ((24 : Int32) &&& 0x3f).toInt64)) ||| ((((xs.getD 13 0).toInt64) &&& (255 : Int64)) <<< ((16 : Int32) &&& 0x3f).toInt64)) ||| ((((xs.getD 14 0).toInt64) &&& (255 : Int64)) <<< ((8 : Int32) &&& 0x3f).toInt64)))])) t
    refine XS.aloadN X0.here hx rfl (hb hby d12_96) rfl rfl ?_
    show Steps p.tables e below (s₁.setTop (mkF m 97 #[.val (.ref a0), .val (.int (8 : Int32))] [(.ref a0), (.long ((((((((((xs.getD 8 0).toInt64) &&& (255 : Int64)) <<< ((56 : Int32) &&& 0x3f).toInt64) ||| ((((xs.getD 9 0).toInt64) &&& (255 : Int64)) <<< ((48 : Int32) &&& 0x3f).toInt64)) ||| ((((xs.getD 10 0).toInt64) &&& (255 : Int64)) <<< ((40 : Int32) &&& 0x3f).toInt64)) ||| ((((xs.getD 11 0).toInt64) &&& (255 : Int64)) <<< ((32 : Int32) &&& 0x3f).toInt64)) ||| ((((xs.getD 12 0).toInt64) &&& (255 : Int64)) <<< ((24 : Int32) &&& 0x3f).toInt64)) ||| ((((xs.getD 13 0).toInt64) &&& (255 : Int64)) <<< ((16 : Int32) &&& 0x3f).toInt64)) ||| ((((xs.getD 14 0).toInt64) &&& (255 : Int64)) <<< ((8 : Int32) &&& 0x3f).toInt64)))])) t
    refine XS.iloadN X0.here hx rfl (hb hby d12_97) rfl ?_
    show Steps p.tables e below (s₁.setTop (mkF m 98 #[.val (.ref a0), .val (.int (8 : Int32))] [(.int (8 : Int32)), (.ref a0), (.long ((((((((((xs.getD 8 0).toInt64) &&& (255 : Int64)) <<< ((56 : Int32) &&& 0x3f).toInt64) ||| ((((xs.getD 9 0).toInt64) &&& (255 : Int64)) <<< ((48 : Int32) &&& 0x3f).toInt64)) ||| ((((xs.getD 10 0).toInt64) &&& (255 : Int64)) <<< ((40 : Int32) &&& 0x3f).toInt64)) ||| ((((xs.getD 11 0).toInt64) &&& (255 : Int64)) <<< ((32 : Int32) &&& 0x3f).toInt64)) ||| ((((xs.getD 12 0).toInt64) &&& (255 : Int64)) <<< ((24 : Int32) &&& 0x3f).toInt64)) ||| ((((xs.getD 13 0).toInt64) &&& (255 : Int64)) <<< ((16 : Int32) &&& 0x3f).toInt64)) ||| ((((xs.getD 14 0).toInt64) &&& (255 : Int64)) <<< ((8 : Int32) &&& 0x3f).toInt64)))])) t
    refine XS.bipush X0.here hx rfl (hb hby d12_98) ?_
    show Steps p.tables e below (s₁.setTop (mkF m 100 #[.val (.ref a0), .val (.int (8 : Int32))] [(.int (7 : Int32)), (.int (8 : Int32)), (.ref a0), (.long ((((((((((xs.getD 8 0).toInt64) &&& (255 : Int64)) <<< ((56 : Int32) &&& 0x3f).toInt64) ||| ((((xs.getD 9 0).toInt64) &&& (255 : Int64)) <<< ((48 : Int32) &&& 0x3f).toInt64)) ||| ((((xs.getD 10 0).toInt64) &&& (255 : Int64)) <<< ((40 : Int32) &&& 0x3f).toInt64)) ||| ((((xs.getD 11 0).toInt64) &&& (255 : Int64)) <<< ((32 : Int32) &&& 0x3f).toInt64)) ||| ((((xs.getD 12 0).toInt64) &&& (255 : Int64)) <<< ((24 : Int32) &&& 0x3f).toInt64)) ||| ((((xs.getD 13 0).toInt64) &&& (255 : Int64)) <<< ((16 : Int32) &&& 0x3f).toInt64)) ||| ((((xs.getD 14 0).toInt64) &&& (255 : Int64)) <<< ((8 : Int32) &&& 0x3f).toInt64)))])) t
    refine XS.iadd X0.here hx rfl (hb hby d12_100) rfl ?_
    exact kt
  obtain ⟨kk8, cl8, Ar8, qz8, S8, N8a, H8, G8⟩ := id (O_a0)
  have hin8 : ¬ ((15 : Int32) < 0 ∨ cl8.slots.size ≤ ((15 : Int32)).toNatClampNeg) := inb_of S8 (own_lt16 (n := 16) (by simp only [List.length_set, hlen]) (by decide) (by decide))
  have hat8 : cl8.slots[((15 : Int32)).toNatClampNeg]? = some (.int (xs.getD 15 0)) := H8.at hin8 (own_getv _ _)
  refine OGo.step (F' := s₁.setTop (mkF m 102 #[.val (.ref a0), .val (.int (8 : Int32))] [(.int (xs.getD 15 0)), (.long ((((((((((xs.getD 8 0).toInt64) &&& (255 : Int64)) <<< ((56 : Int32) &&& 0x3f).toInt64) ||| ((((xs.getD 9 0).toInt64) &&& (255 : Int64)) <<< ((48 : Int32) &&& 0x3f).toInt64)) ||| ((((xs.getD 10 0).toInt64) &&& (255 : Int64)) <<< ((40 : Int32) &&& 0x3f).toInt64)) ||| ((((xs.getD 11 0).toInt64) &&& (255 : Int64)) <<< ((32 : Int32) &&& 0x3f).toInt64)) ||| ((((xs.getD 12 0).toInt64) &&& (255 : Int64)) <<< ((24 : Int32) &&& 0x3f).toInt64)) ||| ((((xs.getD 13 0).toInt64) &&& (255 : Int64)) <<< ((16 : Int32) &&& 0x3f).toInt64)) ||| ((((xs.getD 14 0).toInt64) &&& (255 : Int64)) <<< ((8 : Int32) &&& 0x3f).toInt64)))])) (fun t kt => ?_) ?_
  · show Steps p.tables e below (s₁.setTop (mkF m 101 #[.val (.ref a0), .val (.int (8 : Int32))] [(.int (15 : Int32)), (.ref a0), (.long ((((((((((xs.getD 8 0).toInt64) &&& (255 : Int64)) <<< ((56 : Int32) &&& 0x3f).toInt64) ||| ((((xs.getD 9 0).toInt64) &&& (255 : Int64)) <<< ((48 : Int32) &&& 0x3f).toInt64)) ||| ((((xs.getD 10 0).toInt64) &&& (255 : Int64)) <<< ((40 : Int32) &&& 0x3f).toInt64)) ||| ((((xs.getD 11 0).toInt64) &&& (255 : Int64)) <<< ((32 : Int32) &&& 0x3f).toInt64)) ||| ((((xs.getD 12 0).toInt64) &&& (255 : Int64)) <<< ((24 : Int32) &&& 0x3f).toInt64)) ||| ((((xs.getD 13 0).toInt64) &&& (255 : Int64)) <<< ((16 : Int32) &&& 0x3f).toInt64)) ||| ((((xs.getD 14 0).toInt64) &&& (255 : Int64)) <<< ((8 : Int32) &&& 0x3f).toInt64)))])) t
    refine X0.baloadBytes hx (j := (15 : Int32)) (v := (.int (xs.getD 15 0))) (by rw [e0]; exact Ar8.1) (State.isArrayOf_alike hZ.alike Ar8.2.1) Ar8.2.2 hin8 hat8 (g := (mkF m 101 #[.val (.ref a0), .val (.int (8 : Int32))] [(.int (15 : Int32)), (.ref a0), (.long ((((((((((xs.getD 8 0).toInt64) &&& (255 : Int64)) <<< ((56 : Int32) &&& 0x3f).toInt64) ||| ((((xs.getD 9 0).toInt64) &&& (255 : Int64)) <<< ((48 : Int32) &&& 0x3f).toInt64)) ||| ((((xs.getD 10 0).toInt64) &&& (255 : Int64)) <<< ((40 : Int32) &&& 0x3f).toInt64)) ||| ((((xs.getD 11 0).toInt64) &&& (255 : Int64)) <<< ((32 : Int32) &&& 0x3f).toInt64)) ||| ((((xs.getD 12 0).toInt64) &&& (255 : Int64)) <<< ((24 : Int32) &&& 0x3f).toInt64)) ||| ((((xs.getD 13 0).toInt64) &&& (255 : Int64)) <<< ((16 : Int32) &&& 0x3f).toInt64)) ||| ((((xs.getD 14 0).toInt64) &&& (255 : Int64)) <<< ((8 : Int32) &&& 0x3f).toInt64)))])) rfl rfl (hb hby d12_101) _ ?_
    exact kt
  refine OGo.step (F' := s₁.setTop (mkF m 108 #[.val (.ref a0), .val (.int (8 : Int32))] [(.long (((((((((((xs.getD 8 0).toInt64) &&& (255 : Int64)) <<< ((56 : Int32) &&& 0x3f).toInt64) ||| ((((xs.getD 9 0).toInt64) &&& (255 : Int64)) <<< ((48 : Int32) &&& 0x3f).toInt64)) ||| ((((xs.getD 10 0).toInt64) &&& (255 : Int64)) <<< ((40 : Int32) &&& 0x3f).toInt64)) ||| ((((xs.getD 11 0).toInt64) &&& (255 : Int64)) <<< ((32 : Int32) &&& 0x3f).toInt64)) ||| ((((xs.getD 12 0).toInt64) &&& (255 : Int64)) <<< ((24 : Int32) &&& 0x3f).toInt64)) ||| ((((xs.getD 13 0).toInt64) &&& (255 : Int64)) <<< ((16 : Int32) &&& 0x3f).toInt64)) ||| ((((xs.getD 14 0).toInt64) &&& (255 : Int64)) <<< ((8 : Int32) &&& 0x3f).toInt64)) ||| (((xs.getD 15 0).toInt64) &&& (255 : Int64))))])) (fun t kt => ?_) ?_
  · show Steps p.tables e below (s₁.setTop (mkF m 102 #[.val (.ref a0), .val (.int (8 : Int32))] [(.int (xs.getD 15 0)), (.long ((((((((((xs.getD 8 0).toInt64) &&& (255 : Int64)) <<< ((56 : Int32) &&& 0x3f).toInt64) ||| ((((xs.getD 9 0).toInt64) &&& (255 : Int64)) <<< ((48 : Int32) &&& 0x3f).toInt64)) ||| ((((xs.getD 10 0).toInt64) &&& (255 : Int64)) <<< ((40 : Int32) &&& 0x3f).toInt64)) ||| ((((xs.getD 11 0).toInt64) &&& (255 : Int64)) <<< ((32 : Int32) &&& 0x3f).toInt64)) ||| ((((xs.getD 12 0).toInt64) &&& (255 : Int64)) <<< ((24 : Int32) &&& 0x3f).toInt64)) ||| ((((xs.getD 13 0).toInt64) &&& (255 : Int64)) <<< ((16 : Int32) &&& 0x3f).toInt64)) ||| ((((xs.getD 14 0).toInt64) &&& (255 : Int64)) <<< ((8 : Int32) &&& 0x3f).toInt64)))])) t
    refine XS.i2l X0.here hx rfl (hb hby d12_102) rfl ?_
    show Steps p.tables e below (s₁.setTop (mkF m 103 #[.val (.ref a0), .val (.int (8 : Int32))] [(.long ((xs.getD 15 0).toInt64)), (.long ((((((((((xs.getD 8 0).toInt64) &&& (255 : Int64)) <<< ((56 : Int32) &&& 0x3f).toInt64) ||| ((((xs.getD 9 0).toInt64) &&& (255 : Int64)) <<< ((48 : Int32) &&& 0x3f).toInt64)) ||| ((((xs.getD 10 0).toInt64) &&& (255 : Int64)) <<< ((40 : Int32) &&& 0x3f).toInt64)) ||| ((((xs.getD 11 0).toInt64) &&& (255 : Int64)) <<< ((32 : Int32) &&& 0x3f).toInt64)) ||| ((((xs.getD 12 0).toInt64) &&& (255 : Int64)) <<< ((24 : Int32) &&& 0x3f).toInt64)) ||| ((((xs.getD 13 0).toInt64) &&& (255 : Int64)) <<< ((16 : Int32) &&& 0x3f).toInt64)) ||| ((((xs.getD 14 0).toInt64) &&& (255 : Int64)) <<< ((8 : Int32) &&& 0x3f).toInt64)))])) t
    refine X0.ldc2Long hx hown (mvT hZ (own_wd hw 73 rfl)) (g := (mkF m 103 #[.val (.ref a0), .val (.int (8 : Int32))] [(.long ((xs.getD 15 0).toInt64)), (.long ((((((((((xs.getD 8 0).toInt64) &&& (255 : Int64)) <<< ((56 : Int32) &&& 0x3f).toInt64) ||| ((((xs.getD 9 0).toInt64) &&& (255 : Int64)) <<< ((48 : Int32) &&& 0x3f).toInt64)) ||| ((((xs.getD 10 0).toInt64) &&& (255 : Int64)) <<< ((40 : Int32) &&& 0x3f).toInt64)) ||| ((((xs.getD 11 0).toInt64) &&& (255 : Int64)) <<< ((32 : Int32) &&& 0x3f).toInt64)) ||| ((((xs.getD 12 0).toInt64) &&& (255 : Int64)) <<< ((24 : Int32) &&& 0x3f).toInt64)) ||| ((((xs.getD 13 0).toInt64) &&& (255 : Int64)) <<< ((16 : Int32) &&& 0x3f).toInt64)) ||| ((((xs.getD 14 0).toInt64) &&& (255 : Int64)) <<< ((8 : Int32) &&& 0x3f).toInt64)))])) rfl (hb hby d12_103) _ ?_
    show Steps p.tables e below (s₁.setTop (mkF m 106 #[.val (.ref a0), .val (.int (8 : Int32))] [(.long (255 : Int64)), (.long ((xs.getD 15 0).toInt64)), (.long ((((((((((xs.getD 8 0).toInt64) &&& (255 : Int64)) <<< ((56 : Int32) &&& 0x3f).toInt64) ||| ((((xs.getD 9 0).toInt64) &&& (255 : Int64)) <<< ((48 : Int32) &&& 0x3f).toInt64)) ||| ((((xs.getD 10 0).toInt64) &&& (255 : Int64)) <<< ((40 : Int32) &&& 0x3f).toInt64)) ||| ((((xs.getD 11 0).toInt64) &&& (255 : Int64)) <<< ((32 : Int32) &&& 0x3f).toInt64)) ||| ((((xs.getD 12 0).toInt64) &&& (255 : Int64)) <<< ((24 : Int32) &&& 0x3f).toInt64)) ||| ((((xs.getD 13 0).toInt64) &&& (255 : Int64)) <<< ((16 : Int32) &&& 0x3f).toInt64)) ||| ((((xs.getD 14 0).toInt64) &&& (255 : Int64)) <<< ((8 : Int32) &&& 0x3f).toInt64)))])) t
    refine XS.land X0.here hx rfl (hb hby d12_106) rfl ?_
    show Steps p.tables e below (s₁.setTop (mkF m 107 #[.val (.ref a0), .val (.int (8 : Int32))] [(.long (((xs.getD 15 0).toInt64) &&& (255 : Int64))), (.long ((((((((((xs.getD 8 0).toInt64) &&& (255 : Int64)) <<< ((56 : Int32) &&& 0x3f).toInt64) ||| ((((xs.getD 9 0).toInt64) &&& (255 : Int64)) <<< ((48 : Int32) &&& 0x3f).toInt64)) ||| ((((xs.getD 10 0).toInt64) &&& (255 : Int64)) <<< ((40 : Int32) &&& 0x3f).toInt64)) ||| ((((xs.getD 11 0).toInt64) &&& (255 : Int64)) <<< ((32 : Int32) &&& 0x3f).toInt64)) ||| ((((xs.getD 12 0).toInt64) &&& (255 : Int64)) <<< ((24 : Int32) &&& 0x3f).toInt64)) ||| ((((xs.getD 13 0).toInt64) &&& (255 : Int64)) <<< ((16 : Int32) &&& 0x3f).toInt64)) ||| ((((xs.getD 14 0).toInt64) &&& (255 : Int64)) <<< ((8 : Int32) &&& 0x3f).toInt64)))])) t
    refine XS.lor X0.here hx rfl (hb hby d12_107) rfl ?_
    exact kt
  refine OGo.retJ X0 hx hlk hret (hb hby d12_108) ?_ (by decide) (by decide)
  exact ⟨(by rw [f12_8]), N0, e0⟩
/-! body 1: com/example/veiled_alerts/veiledalerts/model/NetworkContainingPinLaw.put4:([BII)V -/
theorem d1_0 : decode method_5_code 0 = .ok (.aload_n 0, 1) := by decide +kernel
theorem d1_1 : decode method_5_code 1 = .ok (.iload_n 1, 1) := by decide +kernel
theorem d1_2 : decode method_5_code 2 = .ok (.iload_n 2, 1) := by decide +kernel
theorem d1_3 : decode method_5_code 3 = .ok (.bipush 24, 2) := by decide +kernel
theorem d1_5 : decode method_5_code 5 = .ok (.iushr, 1) := by decide +kernel
theorem d1_6 : decode method_5_code 6 = .ok (.i2b, 1) := by decide +kernel
theorem d1_7 : decode method_5_code 7 = .ok (.bastore, 1) := by decide +kernel
theorem d1_8 : decode method_5_code 8 = .ok (.aload_n 0, 1) := by decide +kernel
theorem d1_9 : decode method_5_code 9 = .ok (.iload_n 1, 1) := by decide +kernel
theorem d1_10 : decode method_5_code 10 = .ok (.iconst 1, 1) := by decide +kernel
theorem d1_11 : decode method_5_code 11 = .ok (.iadd, 1) := by decide +kernel
theorem d1_12 : decode method_5_code 12 = .ok (.iload_n 2, 1) := by decide +kernel
theorem d1_13 : decode method_5_code 13 = .ok (.bipush 16, 2) := by decide +kernel
theorem d1_15 : decode method_5_code 15 = .ok (.iushr, 1) := by decide +kernel
theorem d1_16 : decode method_5_code 16 = .ok (.i2b, 1) := by decide +kernel
theorem d1_17 : decode method_5_code 17 = .ok (.bastore, 1) := by decide +kernel
theorem d1_18 : decode method_5_code 18 = .ok (.aload_n 0, 1) := by decide +kernel
theorem d1_19 : decode method_5_code 19 = .ok (.iload_n 1, 1) := by decide +kernel
theorem d1_20 : decode method_5_code 20 = .ok (.iconst 2, 1) := by decide +kernel
theorem d1_21 : decode method_5_code 21 = .ok (.iadd, 1) := by decide +kernel
theorem d1_22 : decode method_5_code 22 = .ok (.iload_n 2, 1) := by decide +kernel
theorem d1_23 : decode method_5_code 23 = .ok (.bipush 8, 2) := by decide +kernel
theorem d1_25 : decode method_5_code 25 = .ok (.iushr, 1) := by decide +kernel
theorem d1_26 : decode method_5_code 26 = .ok (.i2b, 1) := by decide +kernel
theorem d1_27 : decode method_5_code 27 = .ok (.bastore, 1) := by decide +kernel
theorem d1_28 : decode method_5_code 28 = .ok (.aload_n 0, 1) := by decide +kernel
theorem d1_29 : decode method_5_code 29 = .ok (.iload_n 1, 1) := by decide +kernel
theorem d1_30 : decode method_5_code 30 = .ok (.iconst 3, 1) := by decide +kernel
theorem d1_31 : decode method_5_code 31 = .ok (.iadd, 1) := by decide +kernel
theorem d1_32 : decode method_5_code 32 = .ok (.iload_n 2, 1) := by decide +kernel
theorem d1_33 : decode method_5_code 33 = .ok (.i2b, 1) := by decide +kernel
theorem d1_34 : decode method_5_code 34 = .ok (.bastore, 1) := by decide +kernel
theorem d1_35 : decode method_5_code 35 = .ok (.return_, 1) := by decide +kernel
theorem pn_1 : plainName "com/example/veiled_alerts/veiledalerts/model/NetworkContainingPinLaw" = true := by first | (simp [plainName, overriddenIn]; done) | decide +kernel
theorem ef_1_0 (m : MethodId) (x0 : Addr) (x2 : Int32) : entryFrame m #[(.ref x0), (.int (0 : Int32)), (.int x2)] 3 = mkF m 0 #[.val (.ref x0), .val (.int (0 : Int32)), .val (.int x2)] [] := by first | (simp [entryFrame, mkF, argsToLocals, Value.category]; done) | rfl
def Q1_0 (Z : State) (a0 : Addr) (p2 : Int32) (xs : List Int32) (h0 : Heap) (n0 : Nat) (v : Option Value) (h : Heap) (L : List Loc) : Prop := v = none ∧ Fr n0 L ∧ Keep h0 h [a0] ∧ Exa Z h a0 "[B" ∧ OBs Z h a0 ((((xs.set 0 (own_w0 p2)).set 1 (own_w1 p2)).set 2 (own_w2 p2)).set 3 (own_w3 p2))
set_option maxRecDepth 65536 in
set_option maxHeartbeats 40000000 in
theorem rm1_0 (l : Launch) (Z : State) (az : Array Value) (hw : ∀ d ∈ tables_1, d.before az Z = true) (ws : List Jvm.Cond) (a0 : Addr) (p2 : Int32) (xs : List Int32) (h0 : Heap) (n0 : Nat) (Z0 : n0 ≤ h0.size) (E_a0 : Exa Z h0 a0 "[B") (O_a0 : OBs Z h0 a0 xs) (hlen : xs.length = 4) (gn_a0 : n0 ≤ a0) :
    OCtr l Z (⟨"com/example/veiled_alerts/veiledalerts/model/NetworkContainingPinLaw", "put4", "([BII)V"⟩ : MethodName) method_5_code 3 none ws ({ frames := 0, cells := 0, slots := 0, locals := 0 } : Room) #[(.ref a0), (.int (0 : Int32)), (.int p2)] h0 (Q1_0 Z a0 p2 xs h0 n0) := by
  refine OCtr.of (plainFor_of_name pn_1) ?_
  intro p e s m below meth c s₁ X0 hx hlk hZ hown0 hnm hby hml0 hret e0
  have hown : s.vm.findClass "com/example/veiled_alerts/veiledalerts/model/NetworkContainingPinLaw" = some m.cls := hown0
  have hml : c.maxLocals = 3 := hml0
  have N0 := Fr.nil n0
  refine OGo.step (fun t k => castTop (ef_1_0 m a0 p2) k) ?_
  refine OGo.step (F' := s₁.setTop (mkF m 7 #[.val (.ref a0), .val (.int (0 : Int32)), .val (.int p2)] [(.int (((p2.toUInt32 >>> ((24 : Int32) &&& 31).toUInt32).toInt32).toInt8.toInt32)), (.int (0 : Int32)), (.ref a0)])) (fun t kt => ?_) ?_
  · show Steps p.tables e below (s₁.setTop (mkF m 0 #[.val (.ref a0), .val (.int (0 : Int32)), .val (.int p2)] [])) t
    refine XS.aloadN X0.here hx rfl (hb hby d1_0) rfl rfl ?_
    show Steps p.tables e below (s₁.setTop (mkF m 1 #[.val (.ref a0), .val (.int (0 : Int32)), .val (.int p2)] [(.ref a0)])) t
    refine XS.iloadN X0.here hx rfl (hb hby d1_1) rfl ?_
    show Steps p.tables e below (s₁.setTop (mkF m 2 #[.val (.ref a0), .val (.int (0 : Int32)), .val (.int p2)] [(.int (0 : Int32)), (.ref a0)])) t
    refine XS.iloadN X0.here hx rfl (hb hby d1_2) rfl ?_
    show Steps p.tables e below (s₁.setTop (mkF m 3 #[.val (.ref a0), .val (.int (0 : Int32)), .val (.int p2)] [(.int p2), (.int (0 : Int32)), (.ref a0)])) t
    refine XS.bipush X0.here hx rfl (hb hby d1_3) ?_
    show Steps p.tables e below (s₁.setTop (mkF m 5 #[.val (.ref a0), .val (.int (0 : Int32)), .val (.int p2)] [(.int (24 : Int32)), (.int p2), (.int (0 : Int32)), (.ref a0)])) t
    refine XS.iushr X0.here hx rfl (hb hby d1_5) rfl ?_
    show Steps p.tables e below (s₁.setTop (mkF m 6 #[.val (.ref a0), .val (.int (0 : Int32)), .val (.int p2)] [(.int ((p2.toUInt32 >>> ((24 : Int32) &&& 31).toUInt32).toInt32)), (.int (0 : Int32)), (.ref a0)])) t
    refine XS.i2b X0.here hx rfl (hb hby d1_6) rfl ?_
    exact kt
  obtain ⟨kk1, cl1, Ar1, qz1, S1, N1a, H1, G1⟩ := id (O_a0)
  have hin1 : ¬ ((0 : Int32) < 0 ∨ cl1.slots.size ≤ ((0 : Int32)).toNatClampNeg) := inb_of S1 (own_lt16 (n := 4) (by simp only [List.length_set, hlen]) (by decide) (by decide))
  obtain ⟨T1, h1, X1, e1, W1, st1⟩ := stB X0 hx hZ e0 Ar1 (j := (0 : Int32)) hin1 (g := (mkF m 7 #[.val (.ref a0), .val (.int (0 : Int32)), .val (.int p2)] [(.int (((p2.toUInt32 >>> ((24 : Int32) &&& 31).toUInt32).toInt32).toInt8.toInt32)), (.int (0 : Int32)), (.ref a0)])) rfl rfl (hb hby d1_7)
  have O1 : OBs Z h1 a0 (xs.set 0 (own_w0 p2)) := OBs.set O_a0 W1 (fits_nar_byte _) 0 rfl (by rw [show xs.length = 4 from (by simp only [List.length_set, hlen])]; decide)
  have KC1 : Keep h0 h1 [a0] := (Keep.refl h0 [a0]).wr W1 (Or.inl (List.mem_of_getElem? (i := 0) rfl))
  have N1 := Fr.snoc X1 N0 gn_a0
  refine OGo.step st1 ?_
  show OGo _ _ _ _ _ _ _ (T1.setTop (mkF m 8 #[.val (.ref a0), .val (.int (0 : Int32)), .val (.int p2)] []))
  refine OGo.step (F' := T1.setTop (mkF m 17 #[.val (.ref a0), .val (.int (0 : Int32)), .val (.int p2)] [(.int (((p2.toUInt32 >>> ((16 : Int32) &&& 31).toUInt32).toInt32).toInt8.toInt32)), (.int (1 : Int32)), (.ref a0)])) (fun t kt => ?_) ?_
  · show Steps p.tables e below (T1.setTop (mkF m 8 #[.val (.ref a0), .val (.int (0 : Int32)), .val (.int p2)] [])) t
    refine XS.aloadN X1.here hx rfl (hb hby d1_8) rfl rfl ?_
    show Steps p.tables e below (T1.setTop (mkF m 9 #[.val (.ref a0), .val (.int (0 : Int32)), .val (.int p2)] [(.ref a0)])) t
    refine XS.iloadN X1.here hx rfl (hb hby d1_9) rfl ?_
    show Steps p.tables e below (T1.setTop (mkF m 10 #[.val (.ref a0), .val (.int (0 : Int32)), .val (.int p2)] [(.int (0 : Int32)), (.ref a0)])) t
    refine XS.iconst X1.here hx rfl (hb hby d1_10) ?_
    show Steps p.tables e below (T1.setTop (mkF m 11 #[.val (.ref a0), .val (.int (0 : Int32)), .val (.int p2)] [(.int (1 : Int32)), (.int (0 : Int32)), (.ref a0)])) t
    refine XS.iadd X1.here hx rfl (hb hby d1_11) rfl ?_
    show Steps p.tables e below (T1.setTop (mkF m 12 #[.val (.ref a0), .val (.int (0 : Int32)), .val (.int p2)] [(.int (1 : Int32)), (.ref a0)])) t
    refine XS.iloadN X1.here hx rfl (hb hby d1_12) rfl ?_
    show Steps p.tables e below (T1.setTop (mkF m 13 #[.val (.ref a0), .val (.int (0 : Int32)), .val (.int p2)] [(.int p2), (.int (1 : Int32)), (.ref a0)])) t
    refine XS.bipush X1.here hx rfl (hb hby d1_13) ?_
    show Steps p.tables e below (T1.setTop (mkF m 15 #[.val (.ref a0), .val (.int (0 : Int32)), .val (.int p2)] [(.int (16 : Int32)), (.int p2), (.int (1 : Int32)), (.ref a0)])) t
    refine XS.iushr X1.here hx rfl (hb hby d1_15) rfl ?_
    show Steps p.tables e below (T1.setTop (mkF m 16 #[.val (.ref a0), .val (.int (0 : Int32)), .val (.int p2)] [(.int ((p2.toUInt32 >>> ((16 : Int32) &&& 31).toUInt32).toInt32)), (.int (1 : Int32)), (.ref a0)])) t
    refine XS.i2b X1.here hx rfl (hb hby d1_16) rfl ?_
    exact kt
  obtain ⟨kk2, cl2, Ar2, qz2, S2, N2a, H2, G2⟩ := id (O1)
  have hin2 : ¬ ((1 : Int32) < 0 ∨ cl2.slots.size ≤ ((1 : Int32)).toNatClampNeg) := inb_of S2 (own_lt16 (n := 4) (by simp only [List.length_set, hlen]) (by decide) (by decide))
  obtain ⟨T2, h2, X2, e2, W2, st2⟩ := stB X1 hx hZ e1 Ar2 (j := (1 : Int32)) hin2 (g := (mkF m 17 #[.val (.ref a0), .val (.int (0 : Int32)), .val (.int p2)] [(.int (((p2.toUInt32 >>> ((16 : Int32) &&& 31).toUInt32).toInt32).toInt8.toInt32)), (.int (1 : Int32)), (.ref a0)])) rfl rfl (hb hby d1_17)
  have O2 : OBs Z h2 a0 ((xs.set 0 (own_w0 p2)).set 1 (own_w1 p2)) := OBs.set O1 W2 (fits_nar_byte _) 1 rfl (by rw [show (xs.set 0 (own_w0 p2)).length = 4 from (by simp only [List.length_set, hlen])]; decide)
  have KC2 : Keep h0 h2 [a0] := KC1.wr W2 (Or.inl (List.mem_of_getElem? (i := 0) rfl))
  have N2 := Fr.snoc X2 N1 gn_a0
  refine OGo.step st2 ?_
  show OGo _ _ _ _ _ _ _ (T2.setTop (mkF m 18 #[.val (.ref a0), .val (.int (0 : Int32)), .val (.int p2)] []))
  refine OGo.step (F' := T2.setTop (mkF m 27 #[.val (.ref a0), .val (.int (0 : Int32)), .val (.int p2)] [(.int (((p2.toUInt32 >>> ((8 : Int32) &&& 31).toUInt32).toInt32).toInt8.toInt32)), (.int (2 : Int32)), (.ref a0)])) (fun t kt => ?_) ?_
  · show Steps p.tables e below (T2.setTop (mkF m 18 #[.val (.ref a0), .val (.int (0 : Int32)), .val (.int p2)] [])) t
    refine XS.aloadN X2.here hx rfl (hb hby d1_18) rfl rfl ?_
    show Steps p.tables e below (T2.setTop (mkF m 19 #[.val (.ref a0), .val (.int (0 : Int32)), .val (.int p2)] [(.ref a0)])) t
    refine XS.iloadN X2.here hx rfl (hb hby d1_19) rfl ?_
    show Steps p.tables e below (T2.setTop (mkF m 20 #[.val (.ref a0), .val (.int (0 : Int32)), .val (.int p2)] [(.int (0 : Int32)), (.ref a0)])) t
    refine XS.iconst X2.here hx rfl (hb hby d1_20) ?_
    show Steps p.tables e below (T2.setTop (mkF m 21 #[.val (.ref a0), .val (.int (0 : Int32)), .val (.int p2)] [(.int (2 : Int32)), (.int (0 : Int32)), (.ref a0)])) t
    refine XS.iadd X2.here hx rfl (hb hby d1_21) rfl ?_
    show Steps p.tables e below (T2.setTop (mkF m 22 #[.val (.ref a0), .val (.int (0 : Int32)), .val (.int p2)] [(.int (2 : Int32)), (.ref a0)])) t
    refine XS.iloadN X2.here hx rfl (hb hby d1_22) rfl ?_
    show Steps p.tables e below (T2.setTop (mkF m 23 #[.val (.ref a0), .val (.int (0 : Int32)), .val (.int p2)] [(.int p2), (.int (2 : Int32)), (.ref a0)])) t
    refine XS.bipush X2.here hx rfl (hb hby d1_23) ?_
    show Steps p.tables e below (T2.setTop (mkF m 25 #[.val (.ref a0), .val (.int (0 : Int32)), .val (.int p2)] [(.int (8 : Int32)), (.int p2), (.int (2 : Int32)), (.ref a0)])) t
    refine XS.iushr X2.here hx rfl (hb hby d1_25) rfl ?_
    show Steps p.tables e below (T2.setTop (mkF m 26 #[.val (.ref a0), .val (.int (0 : Int32)), .val (.int p2)] [(.int ((p2.toUInt32 >>> ((8 : Int32) &&& 31).toUInt32).toInt32)), (.int (2 : Int32)), (.ref a0)])) t
    refine XS.i2b X2.here hx rfl (hb hby d1_26) rfl ?_
    exact kt
  obtain ⟨kk3, cl3, Ar3, qz3, S3, N3a, H3, G3⟩ := id (O2)
  have hin3 : ¬ ((2 : Int32) < 0 ∨ cl3.slots.size ≤ ((2 : Int32)).toNatClampNeg) := inb_of S3 (own_lt16 (n := 4) (by simp only [List.length_set, hlen]) (by decide) (by decide))
  obtain ⟨T3, h3, X3, e3, W3, st3⟩ := stB X2 hx hZ e2 Ar3 (j := (2 : Int32)) hin3 (g := (mkF m 27 #[.val (.ref a0), .val (.int (0 : Int32)), .val (.int p2)] [(.int (((p2.toUInt32 >>> ((8 : Int32) &&& 31).toUInt32).toInt32).toInt8.toInt32)), (.int (2 : Int32)), (.ref a0)])) rfl rfl (hb hby d1_27)
  have O3 : OBs Z h3 a0 (((xs.set 0 (own_w0 p2)).set 1 (own_w1 p2)).set 2 (own_w2 p2)) := OBs.set O2 W3 (fits_nar_byte _) 2 rfl (by rw [show ((xs.set 0 (own_w0 p2)).set 1 (own_w1 p2)).length = 4 from (by simp only [List.length_set, hlen])]; decide)
  have KC3 : Keep h0 h3 [a0] := KC2.wr W3 (Or.inl (List.mem_of_getElem? (i := 0) rfl))
  have N3 := Fr.snoc X3 N2 gn_a0
  refine OGo.step st3 ?_
  show OGo _ _ _ _ _ _ _ (T3.setTop (mkF m 28 #[.val (.ref a0), .val (.int (0 : Int32)), .val (.int p2)] []))
  refine OGo.step (F' := T3.setTop (mkF m 34 #[.val (.ref a0), .val (.int (0 : Int32)), .val (.int p2)] [(.int (p2.toInt8.toInt32)), (.int (3 : Int32)), (.ref a0)])) (fun t kt => ?_) ?_
  · show Steps p.tables e below (T3.setTop (mkF m 28 #[.val (.ref a0), .val (.int (0 : Int32)), .val (.int p2)] [])) t
    refine XS.aloadN X3.here hx rfl (hb hby d1_28) rfl rfl ?_
    show Steps p.tables e below (T3.setTop (mkF m 29 #[.val (.ref a0), .val (.int (0 : Int32)), .val (.int p2)] [(.ref a0)])) t
    refine XS.iloadN X3.here hx rfl (hb hby d1_29) rfl ?_
    show Steps p.tables e below (T3.setTop (mkF m 30 #[.val (.ref a0), .val (.int (0 : Int32)), .val (.int p2)] [(.int (0 : Int32)), (.ref a0)])) t
    refine XS.iconst X3.here hx rfl (hb hby d1_30) ?_
    show Steps p.tables e below (T3.setTop (mkF m 31 #[.val (.ref a0), .val (.int (0 : Int32)), .val (.int p2)] [(.int (3 : Int32)), (.int (0 : Int32)), (.ref a0)])) t
    refine XS.iadd X3.here hx rfl (hb hby d1_31) rfl ?_
    show Steps p.tables e below (T3.setTop (mkF m 32 #[.val (.ref a0), .val (.int (0 : Int32)), .val (.int p2)] [(.int (3 : Int32)), (.ref a0)])) t
    refine XS.iloadN X3.here hx rfl (hb hby d1_32) rfl ?_
    show Steps p.tables e below (T3.setTop (mkF m 33 #[.val (.ref a0), .val (.int (0 : Int32)), .val (.int p2)] [(.int p2), (.int (3 : Int32)), (.ref a0)])) t
    refine XS.i2b X3.here hx rfl (hb hby d1_33) rfl ?_
    exact kt
  obtain ⟨kk4, cl4, Ar4, qz4, S4, N4a, H4, G4⟩ := id (O3)
  have hin4 : ¬ ((3 : Int32) < 0 ∨ cl4.slots.size ≤ ((3 : Int32)).toNatClampNeg) := inb_of S4 (own_lt16 (n := 4) (by simp only [List.length_set, hlen]) (by decide) (by decide))
  obtain ⟨T4, h4, X4, e4, W4, st4⟩ := stB X3 hx hZ e3 Ar4 (j := (3 : Int32)) hin4 (g := (mkF m 34 #[.val (.ref a0), .val (.int (0 : Int32)), .val (.int p2)] [(.int (p2.toInt8.toInt32)), (.int (3 : Int32)), (.ref a0)])) rfl rfl (hb hby d1_34)
  have O4 : OBs Z h4 a0 ((((xs.set 0 (own_w0 p2)).set 1 (own_w1 p2)).set 2 (own_w2 p2)).set 3 (own_w3 p2)) := OBs.set O3 W4 (fits_nar_byte _) 3 rfl (by rw [show (((xs.set 0 (own_w0 p2)).set 1 (own_w1 p2)).set 2 (own_w2 p2)).length = 4 from (by simp only [List.length_set, hlen])]; decide)
  have KC4 : Keep h0 h4 [a0] := KC3.wr W4 (Or.inl (List.mem_of_getElem? (i := 0) rfl))
  have N4 := Fr.snoc X4 N3 gn_a0
  refine OGo.step st4 ?_
  show OGo _ _ _ _ _ _ _ (T4.setTop (mkF m 35 #[.val (.ref a0), .val (.int (0 : Int32)), .val (.int p2)] []))
  refine OGo.retV X4 hx hlk hret (hb hby d1_35) ?_ (by decide) (by decide)
  show Q1_0 Z a0 p2 xs h0 n0 _ T4.heap _
  rw [e4]
  exact ⟨rfl, N4, KC4, ((((E_a0.wr W1).wr W2).wr W3).wr W4), O4⟩
/-! body 10: com/example/veiled_alerts/veiledalerts/model/NetworkContainingPinLaw.get4:([BI)I -/
theorem d10_0 : decode method_6_code 0 = .ok (.aload_n 0, 1) := by decide +kernel
theorem d10_1 : decode method_6_code 1 = .ok (.iload_n 1, 1) := by decide +kernel
theorem d10_2 : decode method_6_code 2 = .ok (.baload, 1) := by decide +kernel
theorem d10_3 : decode method_6_code 3 = .ok (.sipush 255, 3) := by decide +kernel
theorem d10_6 : decode method_6_code 6 = .ok (.iand, 1) := by decide +kernel
theorem d10_7 : decode method_6_code 7 = .ok (.bipush 24, 2) := by decide +kernel
theorem d10_9 : decode method_6_code 9 = .ok (.ishl, 1) := by decide +kernel
theorem d10_10 : decode method_6_code 10 = .ok (.aload_n 0, 1) := by decide +kernel
theorem d10_11 : decode method_6_code 11 = .ok (.iload_n 1, 1) := by decide +kernel
theorem d10_12 : decode method_6_code 12 = .ok (.iconst 1, 1) := by decide +kernel
theorem d10_13 : decode method_6_code 13 = .ok (.iadd, 1) := by decide +kernel
theorem d10_14 : decode method_6_code 14 = .ok (.baload, 1) := by decide +kernel
theorem d10_15 : decode method_6_code 15 = .ok (.sipush 255, 3) := by decide +kernel
theorem d10_18 : decode method_6_code 18 = .ok (.iand, 1) := by decide +kernel
theorem d10_19 : decode method_6_code 19 = .ok (.bipush 16, 2) := by decide +kernel
theorem d10_21 : decode method_6_code 21 = .ok (.ishl, 1) := by decide +kernel
theorem d10_22 : decode method_6_code 22 = .ok (.ior, 1) := by decide +kernel
theorem d10_23 : decode method_6_code 23 = .ok (.aload_n 0, 1) := by decide +kernel
theorem d10_24 : decode method_6_code 24 = .ok (.iload_n 1, 1) := by decide +kernel
theorem d10_25 : decode method_6_code 25 = .ok (.iconst 2, 1) := by decide +kernel
theorem d10_26 : decode method_6_code 26 = .ok (.iadd, 1) := by decide +kernel
theorem d10_27 : decode method_6_code 27 = .ok (.baload, 1) := by decide +kernel
theorem d10_28 : decode method_6_code 28 = .ok (.sipush 255, 3) := by decide +kernel
theorem d10_31 : decode method_6_code 31 = .ok (.iand, 1) := by decide +kernel
theorem d10_32 : decode method_6_code 32 = .ok (.bipush 8, 2) := by decide +kernel
theorem d10_34 : decode method_6_code 34 = .ok (.ishl, 1) := by decide +kernel
theorem d10_35 : decode method_6_code 35 = .ok (.ior, 1) := by decide +kernel
theorem d10_36 : decode method_6_code 36 = .ok (.aload_n 0, 1) := by decide +kernel
theorem d10_37 : decode method_6_code 37 = .ok (.iload_n 1, 1) := by decide +kernel
theorem d10_38 : decode method_6_code 38 = .ok (.iconst 3, 1) := by decide +kernel
theorem d10_39 : decode method_6_code 39 = .ok (.iadd, 1) := by decide +kernel
theorem d10_40 : decode method_6_code 40 = .ok (.baload, 1) := by decide +kernel
theorem d10_41 : decode method_6_code 41 = .ok (.sipush 255, 3) := by decide +kernel
theorem d10_44 : decode method_6_code 44 = .ok (.iand, 1) := by decide +kernel
theorem d10_45 : decode method_6_code 45 = .ok (.ior, 1) := by decide +kernel
theorem d10_46 : decode method_6_code 46 = .ok (.ireturn, 1) := by decide +kernel
theorem pn_10 : plainName "com/example/veiled_alerts/veiledalerts/model/NetworkContainingPinLaw" = true := by first | (simp [plainName, overriddenIn]; done) | decide +kernel
theorem ef_10_0 (m : MethodId) (x0 : Addr) : entryFrame m #[(.ref x0), (.int (0 : Int32))] 2 = mkF m 0 #[.val (.ref x0), .val (.int (0 : Int32))] [] := by first | (simp [entryFrame, mkF, argsToLocals, Value.category]; done) | rfl
def f10_0 (xs : List Int32) : Int32 :=
  ((((((xs.getD 0 0) &&& (255 : Int32)) <<< ((24 : Int32) &&& 31)) ||| (((xs.getD 1 0) &&& (255 : Int32)) <<< ((16 : Int32) &&& 31))) ||| (((xs.getD 2 0) &&& (255 : Int32)) <<< ((8 : Int32) &&& 31))) ||| ((xs.getD 3 0) &&& (255 : Int32)))
set_option maxRecDepth 65536 in
set_option maxHeartbeats 40000000 in
theorem rm10_0 (l : Launch) (Z : State) (az : Array Value) (hw : ∀ d ∈ tables_1, d.before az Z = true) (ws : List Jvm.Cond) (a0 : Addr) (xs : List Int32) (h0 : Heap) (n0 : Nat) (Z0 : n0 ≤ h0.size) (O_a0 : OBs Z h0 a0 xs) (hlen : xs.length = 4) :
    OCtr l Z (⟨"com/example/veiled_alerts/veiledalerts/model/NetworkContainingPinLaw", "get4", "([BI)I"⟩ : MethodName) method_6_code 2 (some .int) ws ({ frames := 0, cells := 0, slots := 0, locals := 0 } : Room) #[(.ref a0), (.int (0 : Int32))] h0 (OPure (some (.int (f10_0 xs))) h0 n0) := by
  refine OCtr.of (plainFor_of_name pn_10) ?_
  intro p e s m below meth c s₁ X0 hx hlk hZ hown0 hnm hby hml0 hret e0
  have hown : s.vm.findClass "com/example/veiled_alerts/veiledalerts/model/NetworkContainingPinLaw" = some m.cls := hown0
  have hml : c.maxLocals = 2 := hml0
  have N0 := Fr.nil n0
  refine OGo.step (fun t k => castTop (ef_10_0 m a0) k) ?_
  refine OGo.step (F' := s₁.setTop (mkF m 2 #[.val (.ref a0), .val (.int (0 : Int32))] [(.int (0 : Int32)), (.ref a0)])) (fun t kt => ?_) ?_
  · show Steps p.tables e below (s₁.setTop (mkF m 0 #[.val (.ref a0), .val (.int (0 : Int32))] [])) t
    refine XS.aloadN X0.here hx rfl (hb hby d10_0) rfl rfl ?_
    show Steps p.tables e below (s₁.setTop (mkF m 1 #[.val (.ref a0), .val (.int (0 : Int32))] [(.ref a0)])) t
    refine XS.iloadN X0.here hx rfl (hb hby d10_1) rfl ?_
    exact kt
  obtain ⟨kk1, cl1, Ar1, qz1, S1, N1a, H1, G1⟩ := id (O_a0)
  have hin1 : ¬ ((0 : Int32) < 0 ∨ cl1.slots.size ≤ ((0 : Int32)).toNatClampNeg) := inb_of S1 (own_lt16 (n := 4) (by simp only [List.length_set, hlen]) (by decide) (by decide))
  have hat1 : cl1.slots[((0 : Int32)).toNatClampNeg]? = some (.int (xs.getD 0 0)) := H1.at hin1 (own_getv _ _)
  refine OGo.step (F' := s₁.setTop (mkF m 3 #[.val (.ref a0), .val (.int (0 : Int32))] [(.int (xs.getD 0 0))])) (fun t kt => ?_) ?_
  · show Steps p.tables e below (s₁.setTop (mkF m 2 #[.val (.ref a0), .val (.int (0 : Int32))] [(.int (0 : Int32)), (.ref a0)])) t
    refine X0.baloadBytes hx (j := (0 : Int32)) (v := (.int (xs.getD 0 0))) (by rw [e0]; exact Ar1.1) (State.isArrayOf_alike hZ.alike Ar1.2.1) Ar1.2.2 hin1 hat1 (g := (mkF m 2 #[.val (.ref a0), .val (.int (0 : Int32))] [(.int (0 : Int32)), (.ref a0)])) rfl rfl (hb hby d10_2) _ ?_
    exact kt
  refine OGo.step (F' := s₁.setTop (mkF m 14 #[.val (.ref a0), .val (.int (0 : Int32))] [(.int (1 : Int32)), (.ref a0), (.int (((xs.getD 0 0) &&& (255 : Int32)) <<< ((24 : Int32) &&& 31)))])) (fun t kt => ?_) ?_
  · show Steps p.tables e below (s₁.setTop (mkF m 3 #[.val (.ref a0), .val (.int (0 : Int32))] [(.int (xs.getD 0 0))])) t
    refine XS.sipush X0.here hx rfl (hb hby d10_3) ?_
    show Steps p.tables e below (s₁.setTop (mkF m 6 #[.val (.ref a0), .val (.int (0 : Int32))] [(.int (255 : Int32)), (.int (xs.getD 0 0))])) t
    refine XS.iand X0.here hx rfl (hb hby d10_6) rfl ?_
    show Steps p.tables e below (s₁.setTop (mkF m 7 #[.val (.ref a0), .val (.int (0 : Int32))] [(.int ((xs.getD 0 0) &&& (255 : Int32)))])) t
    refine XS.bipush X0.here hx rfl (hb hby d10_7) ?_
    show Steps p.tables e below (s₁.setTop (mkF m 9 #[.val (.ref a0), .val (.int (0 : Int32))] [(.int (24 : Int32)), (.int ((xs.getD 0 0) &&& (255 : Int32)))])) t
    refine XS.ishl X0.here hx rfl (hb hby d10_9) rfl ?_
    show Steps p.tables e below (s₁.setTop (mkF m 10 #[.val (.ref a0), .val (.int (0 : Int32))] [(.int (((xs.getD 0 0) &&& (255 : Int32)) <<< ((24 : Int32) &&& 31)))])) t
    refine XS.aloadN X0.here hx rfl (hb hby d10_10) rfl rfl ?_
    show Steps p.tables e below (s₁.setTop (mkF m 11 #[.val (.ref a0), .val (.int (0 : Int32))] [(.ref a0), (.int (((xs.getD 0 0) &&& (255 : Int32)) <<< ((24 : Int32) &&& 31)))])) t
    refine XS.iloadN X0.here hx rfl (hb hby d10_11) rfl ?_
    show Steps p.tables e below (s₁.setTop (mkF m 12 #[.val (.ref a0), .val (.int (0 : Int32))] [(.int (0 : Int32)), (.ref a0), (.int (((xs.getD 0 0) &&& (255 : Int32)) <<< ((24 : Int32) &&& 31)))])) t
    refine XS.iconst X0.here hx rfl (hb hby d10_12) ?_
    show Steps p.tables e below (s₁.setTop (mkF m 13 #[.val (.ref a0), .val (.int (0 : Int32))] [(.int (1 : Int32)), (.int (0 : Int32)), (.ref a0), (.int (((xs.getD 0 0) &&& (255 : Int32)) <<< ((24 : Int32) &&& 31)))])) t
    refine XS.iadd X0.here hx rfl (hb hby d10_13) rfl ?_
    exact kt
  obtain ⟨kk2, cl2, Ar2, qz2, S2, N2a, H2, G2⟩ := id (O_a0)
  have hin2 : ¬ ((1 : Int32) < 0 ∨ cl2.slots.size ≤ ((1 : Int32)).toNatClampNeg) := inb_of S2 (own_lt16 (n := 4) (by simp only [List.length_set, hlen]) (by decide) (by decide))
  have hat2 : cl2.slots[((1 : Int32)).toNatClampNeg]? = some (.int (xs.getD 1 0)) := H2.at hin2 (own_getv _ _)
  refine OGo.step (F' := s₁.setTop (mkF m 15 #[.val (.ref a0), .val (.int (0 : Int32))] [(.int (xs.getD 1 0)), (.int (((xs.getD 0 0) &&& (255 : Int32)) <<< ((24 : Int32) &&& 31)))])) (fun t kt => ?_) ?_
  · show Steps p.tables e below (s₁.setTop (mkF m 14 #[.val (.ref a0), .val (.int (0 : Int32))] [(.int (1 : Int32)), (.ref a0), (.int (((xs.getD 0 0) &&& (255 : Int32)) <<< ((24 : Int32) &&& 31)))])) t
    refine X0.baloadBytes hx (j := (1 : Int32)) (v := (.int (xs.getD 1 0))) (by rw [e0]; exact Ar2.1) (State.isArrayOf_alike hZ.alike Ar2.2.1) Ar2.2.2 hin2 hat2 (g := (mkF m 14 #[.val (.ref a0), .val (.int (0 : Int32))] [(.int (1 : Int32)), (.ref a0), (.int (((xs.getD 0 0) &&& (255 : Int32)) <<< ((24 : Int32) &&& 31)))])) rfl rfl (hb hby d10_14) _ ?_
    exact kt
  refine OGo.step (F' := s₁.setTop (mkF m 27 #[.val (.ref a0), .val (.int (0 : Int32))] [(.int (2 : Int32)), (.ref a0), (.int ((((xs.getD 0 0) &&& (255 : Int32)) <<< ((24 : Int32) &&& 31)) ||| (((xs.getD 1 0) &&& (255 : Int32)) <<< ((16 : Int32) &&& 31))))])) (fun t kt => ?_) ?_
  · show Steps p.tables e below (s₁.setTop (mkF m 15 #[.val (.ref a0), .val (.int (0 : Int32))] [(.int (xs.getD 1 0)), (.int (((xs.getD 0 0) &&& (255 : Int32)) <<< ((24 : Int32) &&& 31)))])) t
    refine XS.sipush X0.here hx rfl (hb hby d10_15) ?_
    show Steps p.tables e below (s₁.setTop (mkF m 18 #[.val (.ref a0), .val (.int (0 : Int32))] [(.int (255 : Int32)), (.int (xs.getD 1 0)), (.int (((xs.getD 0 0) &&& (255 : Int32)) <<< ((24 : Int32) &&& 31)))])) t
    refine XS.iand X0.here hx rfl (hb hby d10_18) rfl ?_
    show Steps p.tables e below (s₁.setTop (mkF m 19 #[.val (.ref a0), .val (.int (0 : Int32))] [(.int ((xs.getD 1 0) &&& (255 : Int32))), (.int (((xs.getD 0 0) &&& (255 : Int32)) <<< ((24 : Int32) &&& 31)))])) t
    refine XS.bipush X0.here hx rfl (hb hby d10_19) ?_
    show Steps p.tables e below (s₁.setTop (mkF m 21 #[.val (.ref a0), .val (.int (0 : Int32))] [(.int (16 : Int32)), (.int ((xs.getD 1 0) &&& (255 : Int32))), (.int (((xs.getD 0 0) &&& (255 : Int32)) <<< ((24 : Int32) &&& 31)))])) t
    refine XS.ishl X0.here hx rfl (hb hby d10_21) rfl ?_
    show Steps p.tables e below (s₁.setTop (mkF m 22 #[.val (.ref a0), .val (.int (0 : Int32))] [(.int (((xs.getD 1 0) &&& (255 : Int32)) <<< ((16 : Int32) &&& 31))), (.int (((xs.getD 0 0) &&& (255 : Int32)) <<< ((24 : Int32) &&& 31)))])) t
    refine XS.ior X0.here hx rfl (hb hby d10_22) rfl ?_
    show Steps p.tables e below (s₁.setTop (mkF m 23 #[.val (.ref a0), .val (.int (0 : Int32))] [(.int ((((xs.getD 0 0) &&& (255 : Int32)) <<< ((24 : Int32) &&& 31)) ||| (((xs.getD 1 0) &&& (255 : Int32)) <<< ((16 : Int32) &&& 31))))])) t
    refine XS.aloadN X0.here hx rfl (hb hby d10_23) rfl rfl ?_
    show Steps p.tables e below (s₁.setTop (mkF m 24 #[.val (.ref a0), .val (.int (0 : Int32))] [(.ref a0), (.int ((((xs.getD 0 0) &&& (255 : Int32)) <<< ((24 : Int32) &&& 31)) ||| (((xs.getD 1 0) &&& (255 : Int32)) <<< ((16 : Int32) &&& 31))))])) t
    refine XS.iloadN X0.here hx rfl (hb hby d10_24) rfl ?_
    show Steps p.tables e below (s₁.setTop (mkF m 25 #[.val (.ref a0), .val (.int (0 : Int32))] [(.int (0 : Int32)), (.ref a0), (.int ((((xs.getD 0 0) &&& (255 : Int32)) <<< ((24 : Int32) &&& 31)) ||| (((xs.getD 1 0) &&& (255 : Int32)) <<< ((16 : Int32) &&& 31))))])) t
    refine XS.iconst X0.here hx rfl (hb hby d10_25) ?_
    show Steps p.tables e below (s₁.setTop (mkF m 26 #[.val (.ref a0), .val (.int (0 : Int32))] [(.int (2 : Int32)), (.int (0 : Int32)), (.ref a0), (.int ((((xs.getD 0 0) &&& (255 : Int32)) <<< ((24 : Int32) &&& 31)) ||| (((xs.getD 1 0) &&& (255 : Int32)) <<< ((16 : Int32) &&& 31))))])) t
    refine XS.iadd X0.here hx rfl (hb hby d10_26) rfl ?_
    exact kt
  obtain ⟨kk3, cl3, Ar3, qz3, S3, N3a, H3, G3⟩ := id (O_a0)
  have hin3 : ¬ ((2 : Int32) < 0 ∨ cl3.slots.size ≤ ((2 : Int32)).toNatClampNeg) := inb_of S3 (own_lt16 (n := 4) (by simp only [List.length_set, hlen]) (by decide) (by decide))
  have hat3 : cl3.slots[((2 : Int32)).toNatClampNeg]? = some (.int (xs.getD 2 0)) := H3.at hin3 (own_getv _ _)
  refine OGo.step (F' := s₁.setTop (mkF m 28 #[.val (.ref a0), .val (.int (0 : Int32))] [(.int (xs.getD 2 0)), (.int ((((xs.getD 0 0) &&& (255 : Int32)) <<< ((24 : Int32) &&& 31)) ||| (((xs.getD 1 0) &&& (255 : Int32)) <<< ((16 : Int32) &&& 31))))])) (fun t kt => ?_) ?_
  · show Steps p.tables e below (s₁.setTop (mkF m 27 #[.val (.ref a0), .val (.int (0 : Int32))] [(.int (2 : Int32)), (.ref a0), (.int ((((xs.getD 0 0) &&& (255 : Int32)) <<< ((24 : Int32) &&& 31)) ||| (((xs.getD 1 0) &&& (255 : Int32)) <<< ((16 : Int32) &&& 31))))])) t
    refine X0.baloadBytes hx (j := (2 : Int32)) (v := (.int (xs.getD 2 0))) (by rw [e0]; exact Ar3.1) (State.isArrayOf_alike hZ.alike Ar3.2.1) Ar3.2.2 hin3 hat3 (g := (mkF m 27 #[.val (.ref a0), .val (.int (0 : Int32))] [(.int (2 : Int32)), (.ref a0), (.int ((((xs.getD 0 0) &&& (255 : Int32)) <<< ((24 : Int32) &&& 31)) ||| (((xs.getD 1 0) &&& (255 : Int32)) <<< ((16 : Int32) &&& 31))))])) rfl rfl (hb hby d10_27) _ ?_
    exact kt
  refine OGo.step (F' := s₁.setTop (mkF m 40 #[.val (.ref a0), .val (.int (0 : Int32))] [(.int (3 : Int32)), (.ref a0), (.int (((((xs.getD 0 0) &&& (255 : Int32)) <<< ((24 : Int32) &&& 31)) ||| (((xs.getD 1 0) &&& (255 : Int32)) <<< ((16 : Int32) &&& 31))) ||| (((xs.getD 2 0) &&& (255 : Int32)) <<< ((8 : Int32) &&& 31))))])) (fun t kt => ?_) ?_
  · show Steps p.tables e below (s₁.setTop (mkF m 28 #[.val (.ref a0), .val (.int (0 : Int32))] [(.int (xs.getD 2 0)), (.int ((((xs.getD 0 0) &&& (255 : Int32)) <<< ((24 : Int32) &&& 31)) ||| (((xs.getD 1 0) &&& (255 : Int32)) <<< ((16 : Int32) &&& 31))))])) t
    refine XS.sipush X0.here hx rfl (hb hby d10_28) ?_
    show Steps p.tables e below (s₁.setTop (mkF m 31 #[.val (.ref a0), .val (.int (0 : Int32))] [(.int (255 : Int32)), (.int (xs.getD 2 0)), (.int ((((xs.getD 0 0) &&& (255 : Int32)) <<< ((24 : Int32) &&& 31)) ||| (((xs.getD 1 0) &&& (255 : Int32)) <<< ((16 : Int32) &&& 31))))])) t
    refine XS.iand X0.here hx rfl (hb hby d10_31) rfl ?_
    show Steps p.tables e below (s₁.setTop (mkF m 32 #[.val (.ref a0), .val (.int (0 : Int32))] [(.int ((xs.getD 2 0) &&& (255 : Int32))), (.int ((((xs.getD 0 0) &&& (255 : Int32)) <<< ((24 : Int32) &&& 31)) ||| (((xs.getD 1 0) &&& (255 : Int32)) <<< ((16 : Int32) &&& 31))))])) t
    refine XS.bipush X0.here hx rfl (hb hby d10_32) ?_
    show Steps p.tables e below (s₁.setTop (mkF m 34 #[.val (.ref a0), .val (.int (0 : Int32))] [(.int (8 : Int32)), (.int ((xs.getD 2 0) &&& (255 : Int32))), (.int ((((xs.getD 0 0) &&& (255 : Int32)) <<< ((24 : Int32) &&& 31)) ||| (((xs.getD 1 0) &&& (255 : Int32)) <<< ((16 : Int32) &&& 31))))])) t
    refine XS.ishl X0.here hx rfl (hb hby d10_34) rfl ?_
    show Steps p.tables e below (s₁.setTop (mkF m 35 #[.val (.ref a0), .val (.int (0 : Int32))] [(.int (((xs.getD 2 0) &&& (255 : Int32)) <<< ((8 : Int32) &&& 31))), (.int ((((xs.getD 0 0) &&& (255 : Int32)) <<< ((24 : Int32) &&& 31)) ||| (((xs.getD 1 0) &&& (255 : Int32)) <<< ((16 : Int32) &&& 31))))])) t
    refine XS.ior X0.here hx rfl (hb hby d10_35) rfl ?_
    show Steps p.tables e below (s₁.setTop (mkF m 36 #[.val (.ref a0), .val (.int (0 : Int32))] [(.int (((((xs.getD 0 0) &&& (255 : Int32)) <<< ((24 : Int32) &&& 31)) ||| (((xs.getD 1 0) &&& (255 : Int32)) <<< ((16 : Int32) &&& 31))) ||| (((xs.getD 2 0) &&& (255 : Int32)) <<< ((8 : Int32) &&& 31))))])) t
    refine XS.aloadN X0.here hx rfl (hb hby d10_36) rfl rfl ?_
    show Steps p.tables e below (s₁.setTop (mkF m 37 #[.val (.ref a0), .val (.int (0 : Int32))] [(.ref a0), (.int (((((xs.getD 0 0) &&& (255 : Int32)) <<< ((24 : Int32) &&& 31)) ||| (((xs.getD 1 0) &&& (255 : Int32)) <<< ((16 : Int32) &&& 31))) ||| (((xs.getD 2 0) &&& (255 : Int32)) <<< ((8 : Int32) &&& 31))))])) t
    refine XS.iloadN X0.here hx rfl (hb hby d10_37) rfl ?_
    show Steps p.tables e below (s₁.setTop (mkF m 38 #[.val (.ref a0), .val (.int (0 : Int32))] [(.int (0 : Int32)), (.ref a0), (.int (((((xs.getD 0 0) &&& (255 : Int32)) <<< ((24 : Int32) &&& 31)) ||| (((xs.getD 1 0) &&& (255 : Int32)) <<< ((16 : Int32) &&& 31))) ||| (((xs.getD 2 0) &&& (255 : Int32)) <<< ((8 : Int32) &&& 31))))])) t
    refine XS.iconst X0.here hx rfl (hb hby d10_38) ?_
    show Steps p.tables e below (s₁.setTop (mkF m 39 #[.val (.ref a0), .val (.int (0 : Int32))] [(.int (3 : Int32)), (.int (0 : Int32)), (.ref a0), (.int (((((xs.getD 0 0) &&& (255 : Int32)) <<< ((24 : Int32) &&& 31)) ||| (((xs.getD 1 0) &&& (255 : Int32)) <<< ((16 : Int32) &&& 31))) ||| (((xs.getD 2 0) &&& (255 : Int32)) <<< ((8 : Int32) &&& 31))))])) t
    refine XS.iadd X0.here hx rfl (hb hby d10_39) rfl ?_
    exact kt
  obtain ⟨kk4, cl4, Ar4, qz4, S4, N4a, H4, G4⟩ := id (O_a0)
  have hin4 : ¬ ((3 : Int32) < 0 ∨ cl4.slots.size ≤ ((3 : Int32)).toNatClampNeg) := inb_of S4 (own_lt16 (n := 4) (by simp only [List.length_set, hlen]) (by decide) (by decide))
  have hat4 : cl4.slots[((3 : Int32)).toNatClampNeg]? = some (.int (xs.getD 3 0)) := H4.at hin4 (own_getv _ _)
  refine OGo.step (F' := s₁.setTop (mkF m 41 #[.val (.ref a0), .val (.int (0 : Int32))] [(.int (xs.getD 3 0)), (.int (((((xs.getD 0 0) &&& (255 : Int32)) <<< ((24 : Int32) &&& 31)) ||| (((xs.getD 1 0) &&& (255 : Int32)) <<< ((16 : Int32) &&& 31))) ||| (((xs.getD 2 0) &&& (255 : Int32)) <<< ((8 : Int32) &&& 31))))])) (fun t kt => ?_) ?_
  · show Steps p.tables e below (s₁.setTop (mkF m 40 #[.val (.ref a0), .val (.int (0 : Int32))] [(.int (3 : Int32)), (.ref a0), (.int (((((xs.getD 0 0) &&& (255 : Int32)) <<< ((24 : Int32) &&& 31)) ||| (((xs.getD 1 0) &&& (255 : Int32)) <<< ((16 : Int32) &&& 31))) ||| (((xs.getD 2 0) &&& (255 : Int32)) <<< ((8 : Int32) &&& 31))))])) t
    refine X0.baloadBytes hx (j := (3 : Int32)) (v := (.int (xs.getD 3 0))) (by rw [e0]; exact Ar4.1) (State.isArrayOf_alike hZ.alike Ar4.2.1) Ar4.2.2 hin4 hat4 (g := (mkF m 40 #[.val (.ref a0), .val (.int (0 : Int32))] [(.int (3 : Int32)), (.ref a0), (.int (((((xs.getD 0 0) &&& (255 : Int32)) <<< ((24 : Int32) &&& 31)) ||| (((xs.getD 1 0) &&& (255 : Int32)) <<< ((16 : Int32) &&& 31))) ||| (((xs.getD 2 0) &&& (255 : Int32)) <<< ((8 : Int32) &&& 31))))])) rfl rfl (hb hby d10_40) _ ?_
    exact kt
  refine OGo.step (F' := s₁.setTop (mkF m 46 #[.val (.ref a0), .val (.int (0 : Int32))] [(.int ((((((xs.getD 0 0) &&& (255 : Int32)) <<< ((24 : Int32) &&& 31)) ||| (((xs.getD 1 0) &&& (255 : Int32)) <<< ((16 : Int32) &&& 31))) ||| (((xs.getD 2 0) &&& (255 : Int32)) <<< ((8 : Int32) &&& 31))) ||| ((xs.getD 3 0) &&& (255 : Int32))))])) (fun t kt => ?_) ?_
  · show Steps p.tables e below (s₁.setTop (mkF m 41 #[.val (.ref a0), .val (.int (0 : Int32))] [(.int (xs.getD 3 0)), (.int (((((xs.getD 0 0) &&& (255 : Int32)) <<< ((24 : Int32) &&& 31)) ||| (((xs.getD 1 0) &&& (255 : Int32)) <<< ((16 : Int32) &&& 31))) ||| (((xs.getD 2 0) &&& (255 : Int32)) <<< ((8 : Int32) &&& 31))))])) t
    refine XS.sipush X0.here hx rfl (hb hby d10_41) ?_
    show Steps p.tables e below (s₁.setTop (mkF m 44 #[.val (.ref a0), .val (.int (0 : Int32))] [(.int (255 : Int32)), (.int (xs.getD 3 0)), (.int (((((xs.getD 0 0) &&& (255 : Int32)) <<< ((24 : Int32) &&& 31)) ||| (((xs.getD 1 0) &&& (255 : Int32)) <<< ((16 : Int32) &&& 31))) ||| (((xs.getD 2 0) &&& (255 : Int32)) <<< ((8 : Int32) &&& 31))))])) t
    refine XS.iand X0.here hx rfl (hb hby d10_44) rfl ?_
    show Steps p.tables e below (s₁.setTop (mkF m 45 #[.val (.ref a0), .val (.int (0 : Int32))] [(.int ((xs.getD 3 0) &&& (255 : Int32))), (.int (((((xs.getD 0 0) &&& (255 : Int32)) <<< ((24 : Int32) &&& 31)) ||| (((xs.getD 1 0) &&& (255 : Int32)) <<< ((16 : Int32) &&& 31))) ||| (((xs.getD 2 0) &&& (255 : Int32)) <<< ((8 : Int32) &&& 31))))])) t
    refine XS.ior X0.here hx rfl (hb hby d10_45) rfl ?_
    exact kt
  refine OGo.retI X0 hx hlk hret (hb hby d10_46) ?_ (by decide) (by decide)
  exact ⟨(by rw [f10_0]), N0, e0⟩
/-! body 2: com/example/veiled_alerts/veiledalerts/model/IpAddress.<init>:([B)V -/
theorem d2_0 : decode prog_20_method_1_code 0 = .ok (.aload_n 0, 1) := by decide +kernel
theorem d2_1 : decode prog_20_method_1_code 1 = .ok (.invokespecial 1, 3) := by decide +kernel
theorem d2_4 : decode prog_20_method_1_code 4 = .ok (.aload_n 0, 1) := by decide +kernel
theorem d2_5 : decode prog_20_method_1_code 5 = .ok (.aload_n 1, 1) := by decide +kernel
theorem d2_6 : decode prog_20_method_1_code 6 = .ok (.putfield 7, 3) := by decide +kernel
theorem d2_9 : decode prog_20_method_1_code 9 = .ok (.return_, 1) := by decide +kernel
theorem pn_2 : plainName "com/example/veiled_alerts/veiledalerts/model/IpAddress" = true := by first | (simp [plainName, overriddenIn]; done) | decide +kernel
theorem ef_2 (m : MethodId) (x0 : Addr) (x1 : Addr) : entryFrame m #[(.ref x0), (.ref x1)] 2 = mkF m 0 #[.val (.ref x0), .val (.ref x1)] [] := by first | (simp [entryFrame, mkF, argsToLocals, Value.category]; done) | rfl
def Q2 (Z : State) (a0 : Addr) (a1 : Addr) (u_bytes_a0 : Value) (h0 : Heap) (n0 : Nat) (v : Option Value) (h : Heap) (L : List Loc) : Prop := v = none ∧ Fr n0 L ∧ Keep h0 h [a0] ∧ Exa Z h a0 "com/example/veiled_alerts/veiledalerts/model/IpAddress" ∧ Fld Z h a0 "com/example/veiled_alerts/veiledalerts/model/IpAddress" "bytes" "[B" (.ref a1)
set_option maxRecDepth 65536 in
set_option maxHeartbeats 40000000 in
theorem rm2 (l : Launch) (Z : State) (az : Array Value) (hw : ∀ d ∈ tables_1, d.before az Z = true) (ws : List Jvm.Cond) (a0 : Addr) (a1 : Addr) (u_bytes_a0 : Value) (h0 : Heap) (n0 : Nat) (Z0 : n0 ≤ h0.size) (E_a0 : Exa Z h0 a0 "com/example/veiled_alerts/veiledalerts/model/IpAddress") (F_bytes_a0 : Fld Z h0 a0 "com/example/veiled_alerts/veiledalerts/model/IpAddress" "bytes" "[B" u_bytes_a0) (gn_a0 : n0 ≤ a0) :
    OCtr l Z (⟨"com/example/veiled_alerts/veiledalerts/model/IpAddress", "<init>", "([B)V"⟩ : MethodName) prog_20_method_1_code 2 none ws ({ frames := 1, cells := 0, slots := 0, locals := 12 } : Room) #[(.ref a0), (.ref a1)] h0 (Q2 Z a0 a1 u_bytes_a0 h0 n0) := by
  refine OCtr.of (plainFor_of_name pn_2) ?_
  intro p e s m below meth c s₁ X0 hx hlk hZ hown0 hnm hby hml0 hret e0
  have hown : s.vm.findClass "com/example/veiled_alerts/veiledalerts/model/IpAddress" = some m.cls := hown0
  have hml : c.maxLocals = 2 := hml0
  have N0 := Fr.nil n0
  refine OGo.step (fun t k => castTop (ef_2 m a0 a1) k) ?_
  refine OGo.step (F' := s₁.setTop (mkF m 1 #[.val (.ref a0), .val (.ref a1)] [(.ref a0)])) (fun t kt => ?_) ?_
  · show Steps p.tables e below (s₁.setTop (mkF m 0 #[.val (.ref a0), .val (.ref a1)] [])) t
    refine XS.aloadN X0.here hx rfl (hb hby d2_0) rfl rfl ?_
    exact kt
  obtain ⟨T1, X1, e1, st1⟩ := initO X0 hx hZ hown (own_wd hw 12 rfl) (own_wd hw 13 rfl) (own_wd hw 14 rfl) e0 (g := (mkF m 1 #[.val (.ref a0), .val (.ref a1)] [(.ref a0)])) rfl (by rw [hml]; rfl) rfl (hb hby d2_1) (by decide) (W := 0) (by show 2 * 0 + _ ≤ _; exact Nat.le_of_eq rfl) (by decide)
  refine OGo.step st1 ?_
  show OGo _ _ _ _ _ _ _ (T1.setTop (mkF m 4 #[.val (.ref a0), .val (.ref a1)] []))
  refine OGo.step (F' := T1.setTop (mkF m 6 #[.val (.ref a0), .val (.ref a1)] [(.ref a1), (.ref a0)])) (fun t kt => ?_) ?_
  · show Steps p.tables e below (T1.setTop (mkF m 4 #[.val (.ref a0), .val (.ref a1)] [])) t
    refine XS.aloadN X1.here hx rfl (hb hby d2_4) rfl rfl ?_
    show Steps p.tables e below (T1.setTop (mkF m 5 #[.val (.ref a0), .val (.ref a1)] [(.ref a0)])) t
    refine XS.aloadN X1.here hx rfl (hb hby d2_5) rfl rfl ?_
    exact kt
  obtain ⟨T2, h2, X2, e2, W2, st2⟩ := putF X1 hx hZ hown (host := "") (Or.inl (own_wd hw 15 rfl)) Via.refl e1 F_bytes_a0 E_a0 (Or.inr ⟨(own_wd hw 16 rfl), rfl, hnm⟩) (own_wd hw 7 rfl) (ty := (.array .byte)) (by decide) rfl rfl (g := (mkF m 6 #[.val (.ref a0), .val (.ref a1)] [(.ref a1), (.ref a0)])) rfl rfl (hb hby d2_6)
  have Fw2 : Fld Z h2 a0 "com/example/veiled_alerts/veiledalerts/model/IpAddress" "bytes" "[B" (.ref a1) := F_bytes_a0.same W2
  have KC2 : Keep h0 h2 [a0] := (Keep.refl h0 [a0]).wr W2 (Or.inl (List.mem_of_getElem? (i := 0) rfl))
  have N2 := Fr.snoc X2 N0 gn_a0
  refine OGo.step st2 ?_
  show OGo _ _ _ _ _ _ _ (T2.setTop (mkF m 9 #[.val (.ref a0), .val (.ref a1)] []))
  refine OGo.retV X2 hx hlk hret (hb hby d2_9) ?_ (by decide) (by decide)
  show Q2 Z a0 a1 u_bytes_a0 h0 n0 _ T2.heap _
  rw [e2]
  exact ⟨rfl, N2, KC2, (E_a0.wr W2), Fw2⟩
/-! body 5: com/example/veiled_alerts/veiledalerts/model/IpAddress.bytes:()[B -/
theorem d5_0 : decode prog_20_method_5_code 0 = .ok (.aload_n 0, 1) := by decide +kernel
theorem d5_1 : decode prog_20_method_5_code 1 = .ok (.getfield 7, 3) := by decide +kernel
theorem d5_4 : decode prog_20_method_5_code 4 = .ok (.areturn, 1) := by decide +kernel
theorem pn_5 : plainName "com/example/veiled_alerts/veiledalerts/model/IpAddress" = true := by first | (simp [plainName, overriddenIn]; done) | decide +kernel
theorem ef_5 (m : MethodId) (x0 : Addr) : entryFrame m #[(.ref x0)] 1 = mkF m 0 #[.val (.ref x0)] [] := by first | (simp [entryFrame, mkF, argsToLocals, Value.category]; done) | rfl
def f5 (w_bytes_a0 : Addr) : Addr :=
  w_bytes_a0
set_option maxRecDepth 65536 in
set_option maxHeartbeats 40000000 in
theorem rm5 (l : Launch) (Z : State) (az : Array Value) (hw : ∀ d ∈ tables_1, d.before az Z = true) (ws : List Jvm.Cond) (a0 : Addr) (w_bytes_a0 : Addr) (h0 : Heap) (n0 : Nat) (Z0 : n0 ≤ h0.size) (F_bytes_a0 : Fld Z h0 a0 "com/example/veiled_alerts/veiledalerts/model/IpAddress" "bytes" "[B" (.ref w_bytes_a0)) :
    OCtr l Z (⟨"com/example/veiled_alerts/veiledalerts/model/IpAddress", "bytes", "()[B"⟩ : MethodName) prog_20_method_5_code 1 (some (.array .byte)) ws ({ frames := 0, cells := 0, slots := 0, locals := 0 } : Room) #[(.ref a0)] h0 (OPure (some (.ref (f5 w_bytes_a0))) h0 n0) := by
  refine OCtr.of (plainFor_of_name pn_5) ?_
  intro p e s m below meth c s₁ X0 hx hlk hZ hown0 hnm hby hml0 hret e0
  have hown : s.vm.findClass "com/example/veiled_alerts/veiledalerts/model/IpAddress" = some m.cls := hown0
  have hml : c.maxLocals = 1 := hml0
  have N0 := Fr.nil n0
  refine OGo.step (fun t k => castTop (ef_5 m a0) k) ?_
  refine OGo.step (F' := s₁.setTop (mkF m 1 #[.val (.ref a0)] [(.ref a0)])) (fun t kt => ?_) ?_
  · show Steps p.tables e below (s₁.setTop (mkF m 0 #[.val (.ref a0)] [])) t
    refine XS.aloadN X0.here hx rfl (hb hby d5_0) rfl rfl ?_
    exact kt
  obtain ⟨T1, X1, e1, st1⟩ := getF X0 hx hZ hown (host := "") (Or.inl (own_wd hw 15 rfl)) Via.refl e0 F_bytes_a0 (g := (mkF m 1 #[.val (.ref a0)] [(.ref a0)])) rfl rfl (hb hby d5_1)
  refine OGo.step st1 ?_
  show OGo _ _ _ _ _ _ _ (T1.setTop (mkF m 4 #[.val (.ref a0)] [(.ref w_bytes_a0)]))
  refine OGo.retA X1 hx hlk (t := (.array .byte)) hret rfl rfl rfl (hb hby d5_4) ?_ (by decide) (by decide)
  exact ⟨(by rw [f5]), N0, e1⟩
/-! body 6: com/example/veiled_alerts/veiledalerts/model/Network.<init>:(Lcom/example/veiled_alerts/veiledalerts/model/IpAddress;I)V -/
theorem d6_0 : decode prog_22_method_1_code 0 = .ok (.aload_n 0, 1) := by decide +kernel
theorem d6_1 : decode prog_22_method_1_code 1 = .ok (.invokespecial 1, 3) := by decide +kernel
theorem d6_4 : decode prog_22_method_1_code 4 = .ok (.aload_n 0, 1) := by decide +kernel
theorem d6_5 : decode prog_22_method_1_code 5 = .ok (.aload_n 1, 1) := by decide +kernel
theorem d6_6 : decode prog_22_method_1_code 6 = .ok (.putfield 7, 3) := by decide +kernel
theorem d6_9 : decode prog_22_method_1_code 9 = .ok (.aload_n 0, 1) := by decide +kernel
theorem d6_10 : decode prog_22_method_1_code 10 = .ok (.iload_n 2, 1) := by decide +kernel
theorem d6_11 : decode prog_22_method_1_code 11 = .ok (.putfield 13, 3) := by decide +kernel
theorem d6_14 : decode prog_22_method_1_code 14 = .ok (.return_, 1) := by decide +kernel
theorem pn_6 : plainName "com/example/veiled_alerts/veiledalerts/model/Network" = true := by first | (simp [plainName, overriddenIn]; done) | decide +kernel
theorem ef_6 (m : MethodId) (x0 : Addr) (x1 : Addr) (x2 : Int32) : entryFrame m #[(.ref x0), (.ref x1), (.int x2)] 3 = mkF m 0 #[.val (.ref x0), .val (.ref x1), .val (.int x2)] [] := by first | (simp [entryFrame, mkF, argsToLocals, Value.category]; done) | rfl
def Q6 (Z : State) (a0 : Addr) (a1 : Addr) (p2 : Int32) (u_address_a0 : Value) (u_prefixLength_a0 : Value) (h0 : Heap) (n0 : Nat) (v : Option Value) (h : Heap) (L : List Loc) : Prop := v = none ∧ Fr n0 L ∧ Keep h0 h [a0] ∧ Exa Z h a0 "com/example/veiled_alerts/veiledalerts/model/Network" ∧ Fld Z h a0 "com/example/veiled_alerts/veiledalerts/model/Network" "address" "Lcom/example/veiled_alerts/veiledalerts/model/IpAddress;" (.ref a1) ∧ Fld Z h a0 "com/example/veiled_alerts/veiledalerts/model/Network" "prefixLength" "I" (.int p2)
set_option maxRecDepth 65536 in
set_option maxHeartbeats 40000000 in
theorem rm6 (l : Launch) (Z : State) (az : Array Value) (hw : ∀ d ∈ tables_1, d.before az Z = true) (ws : List Jvm.Cond) (a0 : Addr) (a1 : Addr) (p2 : Int32) (u_address_a0 : Value) (u_prefixLength_a0 : Value) (h0 : Heap) (n0 : Nat) (Z0 : n0 ≤ h0.size) (E_a0 : Exa Z h0 a0 "com/example/veiled_alerts/veiledalerts/model/Network") (F_address_a0 : Fld Z h0 a0 "com/example/veiled_alerts/veiledalerts/model/Network" "address" "Lcom/example/veiled_alerts/veiledalerts/model/IpAddress;" u_address_a0) (gn_a0 : n0 ≤ a0) (F_prefixLength_a0 : Fld Z h0 a0 "com/example/veiled_alerts/veiledalerts/model/Network" "prefixLength" "I" u_prefixLength_a0) :
    OCtr l Z (⟨"com/example/veiled_alerts/veiledalerts/model/Network", "<init>", "(Lcom/example/veiled_alerts/veiledalerts/model/IpAddress;I)V"⟩ : MethodName) prog_22_method_1_code 3 none ws ({ frames := 1, cells := 0, slots := 0, locals := 12 } : Room) #[(.ref a0), (.ref a1), (.int p2)] h0 (Q6 Z a0 a1 p2 u_address_a0 u_prefixLength_a0 h0 n0) := by
  refine OCtr.of (plainFor_of_name pn_6) ?_
  intro p e s m below meth c s₁ X0 hx hlk hZ hown0 hnm hby hml0 hret e0
  have hown : s.vm.findClass "com/example/veiled_alerts/veiledalerts/model/Network" = some m.cls := hown0
  have hml : c.maxLocals = 3 := hml0
  have N0 := Fr.nil n0
  refine OGo.step (fun t k => castTop (ef_6 m a0 a1 p2) k) ?_
  refine OGo.step (F' := s₁.setTop (mkF m 1 #[.val (.ref a0), .val (.ref a1), .val (.int p2)] [(.ref a0)])) (fun t kt => ?_) ?_
  · show Steps p.tables e below (s₁.setTop (mkF m 0 #[.val (.ref a0), .val (.ref a1), .val (.int p2)] [])) t
    refine XS.aloadN X0.here hx rfl (hb hby d6_0) rfl rfl ?_
    exact kt
  obtain ⟨T1, X1, e1, st1⟩ := initO X0 hx hZ hown (own_wd hw 42 rfl) (own_wd hw 13 rfl) (own_wd hw 14 rfl) e0 (g := (mkF m 1 #[.val (.ref a0), .val (.ref a1), .val (.int p2)] [(.ref a0)])) rfl (by rw [hml]; rfl) rfl (hb hby d6_1) (by decide) (W := 0) (by show 2 * 0 + _ ≤ _; exact Nat.le_of_eq rfl) (by decide)
  refine OGo.step st1 ?_
  show OGo _ _ _ _ _ _ _ (T1.setTop (mkF m 4 #[.val (.ref a0), .val (.ref a1), .val (.int p2)] []))
  refine OGo.step (F' := T1.setTop (mkF m 6 #[.val (.ref a0), .val (.ref a1), .val (.int p2)] [(.ref a1), (.ref a0)])) (fun t kt => ?_) ?_
  · show Steps p.tables e below (T1.setTop (mkF m 4 #[.val (.ref a0), .val (.ref a1), .val (.int p2)] [])) t
    refine XS.aloadN X1.here hx rfl (hb hby d6_4) rfl rfl ?_
    show Steps p.tables e below (T1.setTop (mkF m 5 #[.val (.ref a0), .val (.ref a1), .val (.int p2)] [(.ref a0)])) t
    refine XS.aloadN X1.here hx rfl (hb hby d6_5) rfl rfl ?_
    exact kt
  obtain ⟨T2, h2, X2, e2, W2, st2⟩ := putF X1 hx hZ hown (host := "") (Or.inl (own_wd hw 43 rfl)) Via.refl e1 F_address_a0 E_a0 (Or.inr ⟨(own_wd hw 44 rfl), rfl, hnm⟩) (own_wd hw 36 rfl) (ty := (.object "com/example/veiled_alerts/veiledalerts/model/IpAddress")) (by decide) rfl rfl (g := (mkF m 6 #[.val (.ref a0), .val (.ref a1), .val (.int p2)] [(.ref a1), (.ref a0)])) rfl rfl (hb hby d6_6)
  have Fw2 : Fld Z h2 a0 "com/example/veiled_alerts/veiledalerts/model/Network" "address" "Lcom/example/veiled_alerts/veiledalerts/model/IpAddress;" (.ref a1) := F_address_a0.same W2
  have KC2 : Keep h0 h2 [a0] := (Keep.refl h0 [a0]).wr W2 (Or.inl (List.mem_of_getElem? (i := 0) rfl))
  have N2 := Fr.snoc X2 N0 gn_a0
  refine OGo.step st2 ?_
  show OGo _ _ _ _ _ _ _ (T2.setTop (mkF m 9 #[.val (.ref a0), .val (.ref a1), .val (.int p2)] []))
  refine OGo.step (F' := T2.setTop (mkF m 11 #[.val (.ref a0), .val (.ref a1), .val (.int p2)] [(.int p2), (.ref a0)])) (fun t kt => ?_) ?_
  · show Steps p.tables e below (T2.setTop (mkF m 9 #[.val (.ref a0), .val (.ref a1), .val (.int p2)] [])) t
    refine XS.aloadN X2.here hx rfl (hb hby d6_9) rfl rfl ?_
    show Steps p.tables e below (T2.setTop (mkF m 10 #[.val (.ref a0), .val (.ref a1), .val (.int p2)] [(.ref a0)])) t
    refine XS.iloadN X2.here hx rfl (hb hby d6_10) rfl ?_
    exact kt
  obtain ⟨T3, h3, X3, e3, W3, st3⟩ := putF X2 hx hZ hown (host := "") (Or.inl (own_wd hw 45 rfl)) Via.refl e2 (F_prefixLength_a0.other W2 (Or.inr (slot_ne (a0 := az) (Or.inr (own_wd hw 46 rfl)) (Or.inr (own_wd hw 44 rfl)) (by decide) (t := .int) (t' := (.object "com/example/veiled_alerts/veiledalerts/model/IpAddress")) (by decide) (by decide)))) (E_a0.wr W2) (Or.inr ⟨(own_wd hw 46 rfl), rfl, hnm⟩) (own_wd hw 36 rfl) (ty := .int) (by decide) rfl rfl (g := (mkF m 11 #[.val (.ref a0), .val (.ref a1), .val (.int p2)] [(.int p2), (.ref a0)])) rfl rfl (hb hby d6_11)
  have Fw3 : Fld Z h3 a0 "com/example/veiled_alerts/veiledalerts/model/Network" "prefixLength" "I" (.int p2) := (F_prefixLength_a0.other W2 (Or.inr (slot_ne (a0 := az) (Or.inr (own_wd hw 46 rfl)) (Or.inr (own_wd hw 44 rfl)) (by decide) (t := .int) (t' := (.object "com/example/veiled_alerts/veiledalerts/model/IpAddress")) (by decide) (by decide)))).same W3
  have KC3 : Keep h0 h3 [a0] := KC2.wr W3 (Or.inl (List.mem_of_getElem? (i := 0) rfl))
  have N3 := Fr.snoc X3 N2 gn_a0
  refine OGo.step st3 ?_
  show OGo _ _ _ _ _ _ _ (T3.setTop (mkF m 14 #[.val (.ref a0), .val (.ref a1), .val (.int p2)] []))
  refine OGo.retV X3 hx hlk hret (hb hby d6_14) ?_ (by decide) (by decide)
  show Q6 Z a0 a1 p2 u_address_a0 u_prefixLength_a0 h0 n0 _ T3.heap _
  rw [e3]
  exact ⟨rfl, N3, KC3, ((E_a0.wr W2).wr W3), (Fw2.other W3 (Or.inr (slot_ne (a0 := az) (Or.inr (own_wd hw 44 rfl)) (Or.inr (own_wd hw 46 rfl)) (by decide) (t := (.object "com/example/veiled_alerts/veiledalerts/model/IpAddress")) (t' := .int) (by decide) (by decide)))), Fw3⟩
/-! body 9: com/example/veiled_alerts/veiledalerts/model/Network.prefixLength:()I -/
theorem d9_0 : decode prog_22_method_6_code 0 = .ok (.aload_n 0, 1) := by decide +kernel
theorem d9_1 : decode prog_22_method_6_code 1 = .ok (.getfield 13, 3) := by decide +kernel
theorem d9_4 : decode prog_22_method_6_code 4 = .ok (.ireturn, 1) := by decide +kernel
theorem pn_9 : plainName "com/example/veiled_alerts/veiledalerts/model/Network" = true := by first | (simp [plainName, overriddenIn]; done) | decide +kernel
theorem ef_9 (m : MethodId) (x0 : Addr) : entryFrame m #[(.ref x0)] 1 = mkF m 0 #[.val (.ref x0)] [] := by first | (simp [entryFrame, mkF, argsToLocals, Value.category]; done) | rfl
def f9 (w_prefixLength_a0 : Int32) : Int32 :=
  w_prefixLength_a0
set_option maxRecDepth 65536 in
set_option maxHeartbeats 40000000 in
theorem rm9 (l : Launch) (Z : State) (az : Array Value) (hw : ∀ d ∈ tables_1, d.before az Z = true) (ws : List Jvm.Cond) (a0 : Addr) (w_prefixLength_a0 : Int32) (h0 : Heap) (n0 : Nat) (Z0 : n0 ≤ h0.size) (F_prefixLength_a0 : Fld Z h0 a0 "com/example/veiled_alerts/veiledalerts/model/Network" "prefixLength" "I" (.int w_prefixLength_a0)) :
    OCtr l Z (⟨"com/example/veiled_alerts/veiledalerts/model/Network", "prefixLength", "()I"⟩ : MethodName) prog_22_method_6_code 1 (some .int) ws ({ frames := 0, cells := 0, slots := 0, locals := 0 } : Room) #[(.ref a0)] h0 (OPure (some (.int (f9 w_prefixLength_a0))) h0 n0) := by
  refine OCtr.of (plainFor_of_name pn_9) ?_
  intro p e s m below meth c s₁ X0 hx hlk hZ hown0 hnm hby hml0 hret e0
  have hown : s.vm.findClass "com/example/veiled_alerts/veiledalerts/model/Network" = some m.cls := hown0
  have hml : c.maxLocals = 1 := hml0
  have N0 := Fr.nil n0
  refine OGo.step (fun t k => castTop (ef_9 m a0) k) ?_
  refine OGo.step (F' := s₁.setTop (mkF m 1 #[.val (.ref a0)] [(.ref a0)])) (fun t kt => ?_) ?_
  · show Steps p.tables e below (s₁.setTop (mkF m 0 #[.val (.ref a0)] [])) t
    refine XS.aloadN X0.here hx rfl (hb hby d9_0) rfl rfl ?_
    exact kt
  obtain ⟨T1, X1, e1, st1⟩ := getF X0 hx hZ hown (host := "") (Or.inl (own_wd hw 45 rfl)) Via.refl e0 F_prefixLength_a0 (g := (mkF m 1 #[.val (.ref a0)] [(.ref a0)])) rfl rfl (hb hby d9_1)
  refine OGo.step st1 ?_
  show OGo _ _ _ _ _ _ _ (T1.setTop (mkF m 4 #[.val (.ref a0)] [(.int w_prefixLength_a0)]))
  refine OGo.retI X1 hx hlk hret (hb hby d9_4) ?_ (by decide) (by decide)
  exact ⟨(by rw [f9]), N0, e1⟩
/-! body 8: com/example/veiled_alerts/veiledalerts/model/Network.hostBits:()I -/
theorem d8_0 : decode prog_22_method_7_code 0 = .ok (.aload_n 0, 1) := by decide +kernel
theorem d8_1 : decode prog_22_method_7_code 1 = .ok (.getfield 7, 3) := by decide +kernel
theorem d8_4 : decode prog_22_method_7_code 4 = .ok (.invokevirtual 50, 3) := by decide +kernel
theorem d8_7 : decode prog_22_method_7_code 7 = .ok (.arraylength, 1) := by decide +kernel
theorem d8_8 : decode prog_22_method_7_code 8 = .ok (.bipush 8, 2) := by decide +kernel
theorem d8_10 : decode prog_22_method_7_code 10 = .ok (.imul, 1) := by decide +kernel
theorem d8_11 : decode prog_22_method_7_code 11 = .ok (.aload_n 0, 1) := by decide +kernel
theorem d8_12 : decode prog_22_method_7_code 12 = .ok (.getfield 13, 3) := by decide +kernel
theorem d8_15 : decode prog_22_method_7_code 15 = .ok (.isub, 1) := by decide +kernel
theorem d8_16 : decode prog_22_method_7_code 16 = .ok (.ireturn, 1) := by decide +kernel
theorem pn_8 : plainName "com/example/veiled_alerts/veiledalerts/model/Network" = true := by first | (simp [plainName, overriddenIn]; done) | decide +kernel
theorem pd_8_0 : parseMethodDescriptor "()[B" = some ⟨[], some (.array .byte)⟩ := by decide +kernel
theorem ef_8 (m : MethodId) (x0 : Addr) : entryFrame m #[(.ref x0)] 1 = mkF m 0 #[.val (.ref x0)] [] := by first | (simp [entryFrame, mkF, argsToLocals, Value.category]; done) | rfl
def f8 (xs : List Int32) (w_prefixLength_a0 : Int32) : Int32 :=
  (((Int32.ofNat xs.length) * (8 : Int32)) - w_prefixLength_a0)
set_option maxRecDepth 65536 in
set_option maxHeartbeats 40000000 in
theorem rm8 (l : Launch) (Z : State) (az : Array Value) (hw : ∀ d ∈ tables_1, d.before az Z = true) (ws : List Jvm.Cond) (a0 : Addr) (ip : Addr) (t0 : Addr) (xs : List Int32) (w_prefixLength_a0 : Int32) (h0 : Heap) (n0 : Nat) (Z0 : n0 ≤ h0.size) (E_a0 : Exa Z h0 a0 "com/example/veiled_alerts/veiledalerts/model/Network") (Fa_a0 : Fld Z h0 a0 "com/example/veiled_alerts/veiledalerts/model/Network" "address" "Lcom/example/veiled_alerts/veiledalerts/model/IpAddress;" (.ref ip)) (E_ip : Exa Z h0 ip "com/example/veiled_alerts/veiledalerts/model/IpAddress") (Fb_ip : Fld Z h0 ip "com/example/veiled_alerts/veiledalerts/model/IpAddress" "bytes" "[B" (.ref t0)) (E_t0 : Exa Z h0 t0 "[B") (O_t0 : OBs Z h0 t0 xs) (F_prefixLength_a0 : Fld Z h0 a0 "com/example/veiled_alerts/veiledalerts/model/Network" "prefixLength" "I" (.int w_prefixLength_a0)) :
    OCtr l Z (⟨"com/example/veiled_alerts/veiledalerts/model/Network", "hostBits", "()I"⟩ : MethodName) prog_22_method_7_code 1 (some .int) ws ({ frames := 1, cells := 0, slots := 0, locals := 12 } : Room) #[(.ref a0)] h0 (OPure (some (.int (f8 xs w_prefixLength_a0))) h0 n0) := by
  refine OCtr.of (plainFor_of_name pn_8) ?_
  intro p e s m below meth c s₁ X0 hx hlk hZ hown0 hnm hby hml0 hret e0
  have hown : s.vm.findClass "com/example/veiled_alerts/veiledalerts/model/Network" = some m.cls := hown0
  have hml : c.maxLocals = 1 := hml0
  have N0 := Fr.nil n0
  refine OGo.step (fun t k => castTop (ef_8 m a0) k) ?_
  refine OGo.step (F' := s₁.setTop (mkF m 1 #[.val (.ref a0)] [(.ref a0)])) (fun t kt => ?_) ?_
  · show Steps p.tables e below (s₁.setTop (mkF m 0 #[.val (.ref a0)] [])) t
    refine XS.aloadN X0.here hx rfl (hb hby d8_0) rfl rfl ?_
    exact kt
  obtain ⟨T1, X1, e1, st1⟩ := getF X0 hx hZ hown (host := "") (Or.inl (own_wd hw 43 rfl)) Via.refl e0 Fa_a0 (g := (mkF m 1 #[.val (.ref a0)] [(.ref a0)])) rfl rfl (hb hby d8_1)
  refine OGo.step st1 ?_
  show OGo _ _ _ _ _ _ _ (T1.setTop (mkF m 4 #[.val (.ref a0)] [(.ref ip)]))
  refine OGo.callV X1 hx hZ (y := (⟨"com/example/veiled_alerts/veiledalerts/model/IpAddress", "bytes", "()[B"⟩ : MethodName)) (z := (⟨"com/example/veiled_alerts/veiledalerts/model/IpAddress", "bytes", "()[B"⟩ : MethodName)) hown (own_wd hw 21 rfl) (own_wd hw 22 rfl) (notFace_of_selects (args := #[]) (mvT hZ (own_wd hw 24 rfl))) (own_wd hw 24 rfl) (own_wd hw 23 rfl) (own_wd hw 8 rfl) (own_wd hw 25 rfl) (by decide) (rm5 l Z az hw [] ip t0 h0 n0 Z0 Fb_ip) (W := 0) (by decide) (by decide) E_ip (g := (mkF m 4 #[.val (.ref a0)] [(.ref ip)])) rfl (by rw [hml]; rfl) (argsL := []) (rest := []) (lenOf pd_8_0 rfl) rfl (by show 2 * 0 + _ ≤ _; exact Nat.le_of_eq rfl) (hb hby d8_4) rfl e1 (by decide) (by decide) ?_
  rintro _ T2 L2 X2 ⟨hv2, Nq2, e2⟩
  have N2 := Fr.app N0 Nq2
  rw [show (f5 t0) = t0 from rfl] at hv2
  subst hv2
  show OGo _ _ _ _ _ _ _ (T2.setTop (mkF m 7 #[.val (.ref a0)] [(.ref t0)]))
  obtain ⟨kk3, cl3, Ar3, qz3, S3, N3a, H3, G3⟩ := id (O_t0)
  refine OGo.step (F' := T2.setTop (mkF m 8 #[.val (.ref a0)] [(.int (Int32.ofNat xs.length))])) (fun t kt => ?_) ?_
  · show Steps p.tables e below (T2.setTop (mkF m 7 #[.val (.ref a0)] [(.ref t0)])) t
    refine X2.arraylength hx (by rw [e2]; exact Ar3.1) (State.isArrayOf_alike hZ.alike Ar3.2.1) (g := (mkF m 7 #[.val (.ref a0)] [(.ref t0)])) rfl rfl (hb hby d8_7) _ ?_
    rw [len_of S3 N3a]
    exact kt
  refine OGo.step (F' := T2.setTop (mkF m 12 #[.val (.ref a0)] [(.ref a0), (.int ((Int32.ofNat xs.length) * (8 : Int32)))])) (fun t kt => ?_) ?_
  · show Steps p.tables e below (T2.setTop (mkF m 8 #[.val (.ref a0)] [(.int (Int32.ofNat xs.length))])) t
    refine XS.bipush X2.here hx rfl (hb hby d8_8) ?_
    show Steps p.tables e below (T2.setTop (mkF m 10 #[.val (.ref a0)] [(.int (8 : Int32)), (.int (Int32.ofNat xs.length))])) t
    refine XS.imul X2.here hx rfl (hb hby d8_10) rfl ?_
    show Steps p.tables e below (T2.setTop (mkF m 11 #[.val (.ref a0)] [(.int ((Int32.ofNat xs.length) * (8 : Int32)))])) t
    refine XS.aloadN X2.here hx rfl (hb hby d8_11) rfl rfl ?_
    exact kt
  obtain ⟨T4, X4, e4, st4⟩ := getF X2 hx hZ hown (host := "") (Or.inl (own_wd hw 45 rfl)) Via.refl e2 F_prefixLength_a0 (g := (mkF m 12 #[.val (.ref a0)] [(.ref a0), (.int ((Int32.ofNat xs.length) * (8 : Int32)))])) rfl rfl (hb hby d8_12)
  refine OGo.step st4 ?_
  show OGo _ _ _ _ _ _ _ (T4.setTop (mkF m 15 #[.val (.ref a0)] [(.int w_prefixLength_a0), (.int ((Int32.ofNat xs.length) * (8 : Int32)))]))
  refine OGo.step (F' := T4.setTop (mkF m 16 #[.val (.ref a0)] [(.int (((Int32.ofNat xs.length) * (8 : Int32)) - w_prefixLength_a0))])) (fun t kt => ?_) ?_
  · show Steps p.tables e below (T4.setTop (mkF m 15 #[.val (.ref a0)] [(.int w_prefixLength_a0), (.int ((Int32.ofNat xs.length) * (8 : Int32)))])) t
    refine XS.isub X4.here hx rfl (hb hby d8_15) rfl ?_
    exact kt
  refine OGo.retI X4 hx hlk hret (hb hby d8_16) ?_ (by decide) (by decide)
  exact ⟨(by rw [f8]), N2, e4⟩
/-- one turn: the bit i is cleared -/
def own_stp (ys : List Int32) (i : Int32) : List Int32 := (ys.set ((i / (8 : Int32))).toNatClampNeg (nar .byte (((ys.getD ((i / (8 : Int32))).toNatClampNeg 0) &&& ((((128 : Int32) >>> ((i % (8 : Int32)) &&& 31)) ^^^ (-1 : Int32)).toInt8.toInt32)).toInt8.toInt32)))
def own_fold : Nat → Int32 → List Int32 → List Int32
  | 0, _, ys => ys
  | k + 1, i, ys => own_fold k (i + (1 : Int32)) (own_stp ys i)
/-- the bytes without the bits behind the first p -/
def own_clr (p : Int32) (xs : List Int32) : List Int32 := own_fold (8 * xs.length - p.toNatClampNeg) p xs
theorem own_stpl (ys : List Int32) (i : Int32) : (own_stp ys i).length = ys.length := by unfold own_stp; rw [List.length_set]
theorem own_foldl : ∀ (k : Nat) (i : Int32) (ys : List Int32), (own_fold k i ys).length = ys.length
  | 0, _, _ => rfl
  | k + 1, i, ys => (own_foldl k _ _).trans (own_stpl ys i)
theorem own_clrl (p : Int32) (xs : List Int32) : (own_clr p xs).length = xs.length := own_foldl _ _ _
theorem own_b8 {n : Nat} (h : n = 4 ∨ n = 16) : ((Int32.ofNat n) * (8 : Int32)).toInt = 8 * n := by rcases h with rfl | rfl <;> decide
theorem own_i8 {n : Nat} (h : n = 4 ∨ n = 16) {i : Int32} (h0 : ¬ i < 0) (h1 : i < (Int32.ofNat n) * (8 : Int32)) : (¬ (i / (8 : Int32)) < 0 ∧ (i / (8 : Int32)) < Int32.ofNat n) ∧ (i / (8 : Int32)).toNatClampNeg < n ∧ ¬ (i + (1 : Int32)) < 0 ∧ (i + (1 : Int32)).toNatClampNeg = i.toNatClampNeg + 1 := by
  have b := own_b8 h
  have e := (c_idiv i (8 : Int32) 8 rfl (by decide)).1
  have a := c_iadd i (1 : Int32)
  have l1 := (i + (1 : Int32)).toInt_lt; have l2 := (i + (1 : Int32)).le_toInt
  have on : (Int32.ofNat n).toInt = n := by rcases h with rfl | rfl <;> decide
  simp only [Int32.lt_iff_toInt_lt, Int32.toNatClampNeg, Int32.reduceToInt, b, on] at *
  rw [e (by omega)]
  omega
theorem own_ex {n k : Nat} (h : n = 4 ∨ n = 16) {i : Int32} (h0 : ¬ i < 0) (hk : i.toNatClampNeg + k = 8 * n) : (i < (Int32.ofNat n) * (8 : Int32) ↔ 0 < k) := by
  have b := own_b8 h
  simp only [Int32.lt_iff_toInt_lt, Int32.toNatClampNeg, Int32.reduceToInt, b] at *; omega
theorem own_p8 {n : Nat} (h : n = 4 ∨ n = 16) {i : Int32} (h0 : ¬ i < 0) (h1 : ¬ (Int32.ofNat n) * (8 : Int32) < i) : i.toNatClampNeg + (8 * n - i.toNatClampNeg) = 8 * n := by
  have b := own_b8 h
  simp only [Int32.lt_iff_toInt_lt, Int32.toNatClampNeg, Int32.reduceToInt, b] at *; omega
/-! body 4: com/example/veiled_alerts/veiledalerts/model/Network.containing:(Lcom/example/veiled_alerts/veiledalerts/model/IpAddress;I)Lcom/example/veiled_alerts/veiledalerts/model/Network; -/
theorem d4_0 : decode prog_22_method_3_code 0 = .ok (.aload_n 0, 1) := by decide +kernel
theorem d4_1 : decode prog_22_method_3_code 1 = .ok (.invokevirtual 50, 3) := by decide +kernel
theorem d4_4 : decode prog_22_method_3_code 4 = .ok (.invokevirtual 76, 3) := by decide +kernel
theorem d4_7 : decode prog_22_method_3_code 7 = .ok (.checkcast 77, 3) := by decide +kernel
theorem d4_10 : decode prog_22_method_3_code 10 = .ok (.astore_n 2, 1) := by decide +kernel
theorem d4_11 : decode prog_22_method_3_code 11 = .ok (.aload_n 2, 1) := by decide +kernel
theorem d4_12 : decode prog_22_method_3_code 12 = .ok (.arraylength, 1) := by decide +kernel
theorem d4_13 : decode prog_22_method_3_code 13 = .ok (.bipush 8, 2) := by decide +kernel
theorem d4_15 : decode prog_22_method_3_code 15 = .ok (.imul, 1) := by decide +kernel
theorem d4_16 : decode prog_22_method_3_code 16 = .ok (.istore_n 3, 1) := by decide +kernel
theorem d4_17 : decode prog_22_method_3_code 17 = .ok (.iload_n 1, 1) := by decide +kernel
theorem d4_18 : decode prog_22_method_3_code 18 = .ok (.ifCond .lt 8, 3) := by decide +kernel
theorem d4_21 : decode prog_22_method_3_code 21 = .ok (.iload_n 1, 1) := by decide +kernel
theorem d4_22 : decode prog_22_method_3_code 22 = .ok (.iload_n 3, 1) := by decide +kernel
theorem d4_23 : decode prog_22_method_3_code 23 = .ok (.if_icmp .le 18, 3) := by decide +kernel
theorem d4_41 : decode prog_22_method_3_code 41 = .ok (.iload_n 1, 1) := by decide +kernel
theorem d4_42 : decode prog_22_method_3_code 42 = .ok (.istore 4, 2) := by decide +kernel
theorem d4_44 : decode prog_22_method_3_code 44 = .ok (.iload 4, 2) := by decide +kernel
theorem d4_46 : decode prog_22_method_3_code 46 = .ok (.iload_n 3, 1) := by decide +kernel
theorem d4_47 : decode prog_22_method_3_code 47 = .ok (.if_icmp .ge 32, 3) := by decide +kernel
theorem d4_50 : decode prog_22_method_3_code 50 = .ok (.aload_n 2, 1) := by decide +kernel
theorem d4_51 : decode prog_22_method_3_code 51 = .ok (.iload 4, 2) := by decide +kernel
theorem d4_53 : decode prog_22_method_3_code 53 = .ok (.bipush 8, 2) := by decide +kernel
theorem d4_55 : decode prog_22_method_3_code 55 = .ok (.idiv, 1) := by decide +kernel
theorem d4_56 : decode prog_22_method_3_code 56 = .ok (.dup2, 1) := by decide +kernel
theorem d4_57 : decode prog_22_method_3_code 57 = .ok (.baload, 1) := by decide +kernel
theorem d4_58 : decode prog_22_method_3_code 58 = .ok (.sipush 128, 3) := by decide +kernel
theorem d4_61 : decode prog_22_method_3_code 61 = .ok (.iload 4, 2) := by decide +kernel
theorem d4_63 : decode prog_22_method_3_code 63 = .ok (.bipush 8, 2) := by decide +kernel
theorem d4_65 : decode prog_22_method_3_code 65 = .ok (.irem, 1) := by decide +kernel
theorem d4_66 : decode prog_22_method_3_code 66 = .ok (.ishr, 1) := by decide +kernel
theorem d4_67 : decode prog_22_method_3_code 67 = .ok (.iconst (-1), 1) := by decide +kernel
theorem d4_68 : decode prog_22_method_3_code 68 = .ok (.ixor, 1) := by decide +kernel
theorem d4_69 : decode prog_22_method_3_code 69 = .ok (.i2b, 1) := by decide +kernel
theorem d4_70 : decode prog_22_method_3_code 70 = .ok (.iand, 1) := by decide +kernel
theorem d4_71 : decode prog_22_method_3_code 71 = .ok (.i2b, 1) := by decide +kernel
theorem d4_72 : decode prog_22_method_3_code 72 = .ok (.bastore, 1) := by decide +kernel
theorem d4_73 : decode prog_22_method_3_code 73 = .ok (.iinc 4 1, 3) := by decide +kernel
theorem d4_76 : decode prog_22_method_3_code 76 = .ok (.goto (-32), 3) := by decide +kernel
theorem d4_79 : decode prog_22_method_3_code 79 = .ok (.new 8, 3) := by decide +kernel
theorem d4_82 : decode prog_22_method_3_code 82 = .ok (.dup, 1) := by decide +kernel
theorem d4_83 : decode prog_22_method_3_code 83 = .ok (.new 35, 3) := by decide +kernel
theorem d4_86 : decode prog_22_method_3_code 86 = .ok (.dup, 1) := by decide +kernel
theorem d4_87 : decode prog_22_method_3_code 87 = .ok (.aload_n 2, 1) := by decide +kernel
theorem d4_88 : decode prog_22_method_3_code 88 = .ok (.invokespecial 84, 3) := by decide +kernel
theorem d4_91 : decode prog_22_method_3_code 91 = .ok (.iload_n 1, 1) := by decide +kernel
theorem d4_92 : decode prog_22_method_3_code 92 = .ok (.invokespecial 73, 3) := by decide +kernel
theorem d4_95 : decode prog_22_method_3_code 95 = .ok (.areturn, 1) := by decide +kernel
theorem pn_4 : plainName "com/example/veiled_alerts/veiledalerts/model/Network" = true := by first | (simp [plainName, overriddenIn]; done) | decide +kernel
theorem pd_4_0 : parseMethodDescriptor "([B)V" = some ⟨[(.array .byte)], none⟩ := by decide +kernel
theorem pd_4_1 : parseMethodDescriptor "(Lcom/example/veiled_alerts/veiledalerts/model/IpAddress;I)V" = some ⟨[(.object "com/example/veiled_alerts/veiledalerts/model/IpAddress"), .int], none⟩ := by decide +kernel
theorem pd_4_2 : parseMethodDescriptor "()[B" = some ⟨[], some (.array .byte)⟩ := by decide +kernel
theorem ef_4 (m : MethodId) (x0 : Addr) (x1 : Int32) : entryFrame m #[(.ref x0), (.int x1)] 5 = mkF m 0 #[.val (.ref x0), .val (.int x1), .unset, .unset, .unset] [] := by first | (simp [entryFrame, mkF, argsToLocals, Value.category]; done) | rfl
def Q4 (Z : State) (a0 : Addr) (p1 : Int32) (t0 : Addr) (xs : List Int32) (h0 : Heap) (n0 : Nat) (v : Option Value) (h : Heap) (L : List Loc) : Prop := ∃ r : Addr, ∃ ip : Addr, ∃ t : Addr, v = some (.ref r) ∧ Fr n0 L ∧ Keep h0 h [] ∧ h0.size ≤ r ∧ h0.size ≤ ip ∧ h0.size ≤ t ∧ Exa Z h r "com/example/veiled_alerts/veiledalerts/model/Network" ∧ Fld Z h r "com/example/veiled_alerts/veiledalerts/model/Network" "address" "Lcom/example/veiled_alerts/veiledalerts/model/IpAddress;" (.ref ip) ∧ Fld Z h r "com/example/veiled_alerts/veiledalerts/model/Network" "prefixLength" "I" (.int p1) ∧ Exa Z h ip "com/example/veiled_alerts/veiledalerts/model/IpAddress" ∧ Fld Z h ip "com/example/veiled_alerts/veiledalerts/model/IpAddress" "bytes" "[B" (.ref t) ∧ Exa Z h t "[B" ∧ OBs Z h t (own_clr p1 xs)
set_option maxRecDepth 65536 in
set_option maxHeartbeats 40000000 in
theorem rm4 (l : Launch) (Z : State) (az : Array Value) (hw : ∀ d ∈ tables_1, d.before az Z = true) (ws : List Jvm.Cond) (a0 : Addr) (p1 : Int32) (t0 : Addr) (xs : List Int32) (h0 : Heap) (n0 : Nat) (Z0 : n0 ≤ h0.size) (E_a0 : Exa Z h0 a0 "com/example/veiled_alerts/veiledalerts/model/IpAddress") (Fb_a0 : Fld Z h0 a0 "com/example/veiled_alerts/veiledalerts/model/IpAddress" "bytes" "[B" (.ref t0)) (E_t0 : Exa Z h0 t0 "[B") (O_t0 : OBs Z h0 t0 xs) (hlen : xs.length = 4 ∨ xs.length = 16) (hA : ¬ (p1 < (0 : Int32))) (hB : ¬ (((Int32.ofNat xs.length) * (8 : Int32)) < p1)) :
    OCtr l Z (⟨"com/example/veiled_alerts/veiledalerts/model/Network", "containing", "(Lcom/example/veiled_alerts/veiledalerts/model/IpAddress;I)Lcom/example/veiled_alerts/veiledalerts/model/Network;"⟩ : MethodName) prog_22_method_3_code 5 (some (.object "com/example/veiled_alerts/veiledalerts/model/Network")) ws ({ frames := 3, cells := 3, slots := 19, locals := 60 } : Room) #[(.ref a0), (.int p1)] h0 (Q4 Z a0 p1 t0 xs h0 n0) := by
  refine OCtr.of (plainFor_of_name pn_4) ?_
  intro p e s m below meth c s₁ X0 hx hlk hZ hown0 hnm hby hml0 hret e0
  have hown : s.vm.findClass "com/example/veiled_alerts/veiledalerts/model/Network" = some m.cls := hown0
  have hml : c.maxLocals = 5 := hml0
  have N0 := Fr.nil n0
  refine OGo.step (fun t k => castTop (ef_4 m a0 p1) k) ?_
  have lp : ∀ (k : Nat) (tt : Addr) (ys : List Int32) (T0 : State) (hl : Heap) (locs : List Loc) (i : Int32), Stand p l e ({ frames := 3, cells := 3, slots := 19, locals := 60 } : Room) s m #[(.ref a0), (.int p1)] below meth c T0 locs (0 + 1) (0 + 16) → T0.heap = hl → Fr n0 locs → Keep h0 hl [] → h0.size ≤ tt → n0 ≤ tt → Exa Z hl tt "[B" → OBs Z hl tt ys → ys.length = xs.length → ¬ i < 0 → i.toNatClampNeg + k = 8 * xs.length → own_fold k i ys = own_clr p1 xs → OGo p e below s (Q4 Z a0 p1 t0 xs h0 n0) ({ frames := 3, cells := 3, slots := 19, locals := 60 } : Room).cells ({ frames := 3, cells := 3, slots := 19, locals := 60 } : Room).slots (T0.setTop (mkF m 44 #[.val (.ref a0), .val (.int p1), .val (.ref tt), .val (.int ((Int32.ofNat xs.length) * (8 : Int32))), .val (.int i)] [])) := by
    intro k
    induction k with
    | zero =>
      intro tt ys T0 hl locs i Xl el Nl KCl sz_tt gn_tt El Ol hyl hi hk hf
      have hlt : ¬ (i < ((Int32.ofNat xs.length) * (8 : Int32))) := by rw [own_ex hlen hi hk]; omega
      refine OGo.step (F' := T0.setTop (mkF m 79 #[.val (.ref a0), .val (.int p1), .val (.ref tt), .val (.int ((Int32.ofNat xs.length) * (8 : Int32))), .val (.int i)] [])) (fun t kt => ?_) ?_
      · show Steps p.tables e below (T0.setTop (mkF m 44 #[.val (.ref a0), .val (.int p1), .val (.ref tt), .val (.int ((Int32.ofNat xs.length) * (8 : Int32))), .val (.int i)] [])) t
        refine XS.iload Xl.here hx rfl (hb hby d4_44) rfl ?_
        show Steps p.tables e below (T0.setTop (mkF m 46 #[.val (.ref a0), .val (.int p1), .val (.ref tt), .val (.int ((Int32.ofNat xs.length) * (8 : Int32))), .val (.int i)] [(.int i)])) t
        refine XS.iloadN Xl.here hx rfl (hb hby d4_46) rfl ?_
        show Steps p.tables e below (T0.setTop (mkF m 47 #[.val (.ref a0), .val (.int p1), .val (.ref tt), .val (.int ((Int32.ofNat xs.length) * (8 : Int32))), .val (.int i)] [(.int ((Int32.ofNat xs.length) * (8 : Int32))), (.int i)])) t
        refine XS.icmpYes Xl.here hx rfl (pc0 := 47) (pc' := 79) rfl (hb hby d4_47) rfl (flt hlt).2.1 (by decide) (by decide) ?_
        exact kt
      obtain ⟨T1, h1, X1, e1, E1, A1, D1, -, st1⟩ := newO Xl hx hZ hown (own_wd hw 35 rfl) (own_wd hw 36 rfl) (own_wd hw 19 rfl) el (g := (mkF m 79 #[.val (.ref a0), .val (.int p1), .val (.ref tt), .val (.int ((Int32.ofNat xs.length) * (8 : Int32))), .val (.int i)] [])) rfl (hb hby d4_79) (by decide) (by decide)
      obtain ⟨b1, g1⟩ : ∃ z, z = hl.size := ⟨_, rfl⟩
      rw [← g1] at A1 D1 st1
      have sz_b1 : h0.size ≤ b1 := Nat.le_trans KCl.1 (Nat.le_of_eq g1.symm)
      have gn_b1 : n0 ≤ b1 := Nat.le_trans Z0 sz_b1
      have KC1 : Keep h0 h1 [] := KCl.ext E1
      have F1_address : Fld Z h1 b1 "com/example/veiled_alerts/veiledalerts/model/Network" "address" "Lcom/example/veiled_alerts/veiledalerts/model/IpAddress;" .null := D1 (Or.inr (own_wd hw 44 rfl)) (ty := (.object "com/example/veiled_alerts/veiledalerts/model/IpAddress")) (by decide)
      have F1_prefixLength : Fld Z h1 b1 "com/example/veiled_alerts/veiledalerts/model/Network" "prefixLength" "I" (.int (0 : Int32)) := D1 (Or.inr (own_wd hw 46 rfl)) (ty := .int) (by decide)
      refine OGo.step st1 ?_
      show OGo _ _ _ _ _ _ _ (T1.setTop (mkF m 82 #[.val (.ref a0), .val (.int p1), .val (.ref tt), .val (.int ((Int32.ofNat xs.length) * (8 : Int32))), .val (.int i)] [(.ref b1)]))
      refine OGo.step (F' := T1.setTop (mkF m 83 #[.val (.ref a0), .val (.int p1), .val (.ref tt), .val (.int ((Int32.ofNat xs.length) * (8 : Int32))), .val (.int i)] [(.ref b1), (.ref b1)])) (fun t kt => ?_) ?_
      · show Steps p.tables e below (T1.setTop (mkF m 82 #[.val (.ref a0), .val (.int p1), .val (.ref tt), .val (.int ((Int32.ofNat xs.length) * (8 : Int32))), .val (.int i)] [(.ref b1)])) t
        refine XS.dup X1.here hx rfl (hb hby d4_82) rfl rfl ?_
        exact kt
      obtain ⟨T2, h2, X2, e2, E2, A2, D2, -, st2⟩ := newO X1 hx hZ hown (own_wd hw 37 rfl) (own_wd hw 7 rfl) (own_wd hw 8 rfl) e1 (g := (mkF m 83 #[.val (.ref a0), .val (.int p1), .val (.ref tt), .val (.int ((Int32.ofNat xs.length) * (8 : Int32))), .val (.int i)] [(.ref b1), (.ref b1)])) rfl (hb hby d4_83) (by decide) (by decide)
      obtain ⟨b2, g2⟩ : ∃ z, z = h1.size := ⟨_, rfl⟩
      rw [← g2] at A2 D2 st2
      have sz_b2 : h0.size ≤ b2 := Nat.le_trans KC1.1 (Nat.le_of_eq g2.symm)
      have gn_b2 : n0 ≤ b2 := Nat.le_trans Z0 sz_b2
      have KC2 : Keep h0 h2 [] := KC1.ext E2
      have F2_bytes : Fld Z h2 b2 "com/example/veiled_alerts/veiledalerts/model/IpAddress" "bytes" "[B" .null := D2 (Or.inr (own_wd hw 16 rfl)) (ty := (.array .byte)) (by decide)
      refine OGo.step st2 ?_
      show OGo _ _ _ _ _ _ _ (T2.setTop (mkF m 86 #[.val (.ref a0), .val (.int p1), .val (.ref tt), .val (.int ((Int32.ofNat xs.length) * (8 : Int32))), .val (.int i)] [(.ref b2), (.ref b1), (.ref b1)]))
      refine OGo.step (F' := T2.setTop (mkF m 88 #[.val (.ref a0), .val (.int p1), .val (.ref tt), .val (.int ((Int32.ofNat xs.length) * (8 : Int32))), .val (.int i)] [(.ref tt), (.ref b2), (.ref b2), (.ref b1), (.ref b1)])) (fun t kt => ?_) ?_
      · show Steps p.tables e below (T2.setTop (mkF m 86 #[.val (.ref a0), .val (.int p1), .val (.ref tt), .val (.int ((Int32.ofNat xs.length) * (8 : Int32))), .val (.int i)] [(.ref b2), (.ref b1), (.ref b1)])) t
        refine XS.dup X2.here hx rfl (hb hby d4_86) rfl rfl ?_
        show Steps p.tables e below (T2.setTop (mkF m 87 #[.val (.ref a0), .val (.int p1), .val (.ref tt), .val (.int ((Int32.ofNat xs.length) * (8 : Int32))), .val (.int i)] [(.ref b2), (.ref b2), (.ref b1), (.ref b1)])) t
        refine XS.aloadN X2.here hx rfl (hb hby d4_87) rfl rfl ?_
        exact kt
      refine OGo.callC X2 hx hZ (y := (⟨"com/example/veiled_alerts/veiledalerts/model/IpAddress", "<init>", "([B)V"⟩ : MethodName)) rfl hown (own_wd hw 38 rfl) (own_wd hw 10 rfl) (own_wd hw 8 rfl) (own_wd hw 11 rfl) (by decide) (rm2 l Z az hw [] b2 tt .null h2 n0 (Nat.le_trans Z0 KC2.1) A2 F2_bytes gn_b2) (W := 3) (by decide) (by decide) (b := b2) (g := (mkF m 88 #[.val (.ref a0), .val (.int p1), .val (.ref tt), .val (.int ((Int32.ofNat xs.length) * (8 : Int32))), .val (.int i)] [(.ref tt), (.ref b2), (.ref b2), (.ref b1), (.ref b1)])) rfl (by rw [hml]; rfl) (argsL := [(.ref tt)]) (rest := [(.ref b2), (.ref b1), (.ref b1)]) (lenOf pd_4_0 rfl) rfl (by show 2 * 0 + _ ≤ _; exact Nat.le_of_eq rfl) (hb hby d4_88) rfl e2 (by decide) (by decide) ?_
      rintro _ T3 L3 X3 ⟨rfl, Nq3, K3, P3_0, P3_1⟩
      have KC3 : Keep h0 T3.heap [] := KC2.trans K3 (allS (Or.inr sz_b2) all0)
      have N3 := Fr.app Nl Nq3
      show OGo _ _ _ _ _ _ _ (T3.setTop (mkF m 91 #[.val (.ref a0), .val (.int p1), .val (.ref tt), .val (.int ((Int32.ofNat xs.length) * (8 : Int32))), .val (.int i)] [(.ref b2), (.ref b1), (.ref b1)]))
      refine OGo.step (F' := T3.setTop (mkF m 92 #[.val (.ref a0), .val (.int p1), .val (.ref tt), .val (.int ((Int32.ofNat xs.length) * (8 : Int32))), .val (.int i)] [(.int p1), (.ref b2), (.ref b1), (.ref b1)])) (fun t kt => ?_) ?_
      · show Steps p.tables e below (T3.setTop (mkF m 91 #[.val (.ref a0), .val (.int p1), .val (.ref tt), .val (.int ((Int32.ofNat xs.length) * (8 : Int32))), .val (.int i)] [(.ref b2), (.ref b1), (.ref b1)])) t
        refine XS.iloadN X3.here hx rfl (hb hby d4_91) rfl ?_
        exact kt
      refine OGo.callC X3 hx hZ (y := (⟨"com/example/veiled_alerts/veiledalerts/model/Network", "<init>", "(Lcom/example/veiled_alerts/veiledalerts/model/IpAddress;I)V"⟩ : MethodName)) rfl hown (own_wd hw 39 rfl) (own_wd hw 40 rfl) (own_wd hw 19 rfl) (own_wd hw 41 rfl) (by decide) (rm6 l Z az hw [] b1 b2 p1 .null (.int (0 : Int32)) T3.heap n0 (Nat.le_trans Z0 KC3.1) ((A1.ext E2).keep K3) ((F1_address.ext E2).keep K3 (ninS (Nat.ne_of_lt (Nat.lt_of_lt_of_le A1.lt (Nat.le_of_eq g2.symm))) nin0)) gn_b1 ((F1_prefixLength.ext E2).keep K3 (ninS (Nat.ne_of_lt (Nat.lt_of_lt_of_le A1.lt (Nat.le_of_eq g2.symm))) nin0))) (W := 1) (by decide) (by decide) (b := b1) (g := (mkF m 92 #[.val (.ref a0), .val (.int p1), .val (.ref tt), .val (.int ((Int32.ofNat xs.length) * (8 : Int32))), .val (.int i)] [(.int p1), (.ref b2), (.ref b1), (.ref b1)])) rfl (by rw [hml]; rfl) (argsL := [(.ref b2), (.int p1)]) (rest := [(.ref b1)]) (lenOf pd_4_1 rfl) rfl (by show 2 * 0 + _ ≤ _; exact Nat.le_of_eq rfl) (hb hby d4_92) rfl rfl (by decide) (by decide) ?_
      rintro _ T4 L4 X4 ⟨rfl, Nq4, K4, P4_0, P4_1, P4_2⟩
      have KC4 : Keep h0 T4.heap [] := KC3.trans K4 (allS (Or.inr sz_b1) all0)
      have N4 := Fr.app N3 Nq4
      show OGo _ _ _ _ _ _ _ (T4.setTop (mkF m 95 #[.val (.ref a0), .val (.int p1), .val (.ref tt), .val (.int ((Int32.ofNat xs.length) * (8 : Int32))), .val (.int i)] [(.ref b1)]))
      refine OGo.retA X4 hx hlk (t := (.object "com/example/veiled_alerts/veiledalerts/model/Network")) hret rfl rfl rfl (hb hby d4_95) ?_ (by decide) (by decide)
      show Q4 Z a0 p1 t0 xs h0 n0 _ T4.heap _
      exact ⟨b1, b2, tt, rfl, N4, KC4, sz_b1, sz_b2, sz_tt, P4_0, P4_1, P4_2, (P3_0.keep K4), (P3_1.keep K4 (ninS (Ne.symm (Nat.ne_of_lt (Nat.lt_of_lt_of_le A1.lt (Nat.le_of_eq g2.symm)))) nin0)), ((((El.ext E1).ext E2).keep K3).keep K4), (hf ▸ ((((Ol.ext E1).ext E2).keep K3 (ninS (Nat.ne_of_lt (Nat.lt_of_lt_of_le (El.ext E1).lt (Nat.le_of_eq g2.symm))) nin0)).keep K4 (ninS (Nat.ne_of_lt (Nat.lt_of_lt_of_le El.lt (Nat.le_of_eq g1.symm))) nin0)))⟩
    | succ k ih =>
      intro tt ys T0 hl locs i Xl el Nl KCl sz_tt gn_tt El Ol hyl hi hk hf
      have hlt : i < ((Int32.ofNat xs.length) * (8 : Int32)) := by rw [own_ex hlen hi hk]; omega
      obtain ⟨q1, q2, q3, q4⟩ := own_i8 hlen hi hlt
      refine OGo.step (F' := T0.setTop (mkF m 57 #[.val (.ref a0), .val (.int p1), .val (.ref tt), .val (.int ((Int32.ofNat xs.length) * (8 : Int32))), .val (.int i)] [(.int (i / (8 : Int32))), (.ref tt), (.int (i / (8 : Int32))), (.ref tt)])) (fun t kt => ?_) ?_
      · show Steps p.tables e below (T0.setTop (mkF m 44 #[.val (.ref a0), .val (.int p1), .val (.ref tt), .val (.int ((Int32.ofNat xs.length) * (8 : Int32))), .val (.int i)] [])) t
        refine XS.iload Xl.here hx rfl (hb hby d4_44) rfl ?_
        show Steps p.tables e below (T0.setTop (mkF m 46 #[.val (.ref a0), .val (.int p1), .val (.ref tt), .val (.int ((Int32.ofNat xs.length) * (8 : Int32))), .val (.int i)] [(.int i)])) t
        refine XS.iloadN Xl.here hx rfl (hb hby d4_46) rfl ?_
        show Steps p.tables e below (T0.setTop (mkF m 47 #[.val (.ref a0), .val (.int p1), .val (.ref tt), .val (.int ((Int32.ofNat xs.length) * (8 : Int32))), .val (.int i)] [(.int ((Int32.ofNat xs.length) * (8 : Int32))), (.int i)])) t
        refine XS.icmpNo Xl.here hx rfl (hb hby d4_47) rfl (tlt hlt).2.1 ?_
        show Steps p.tables e below (T0.setTop (mkF m 50 #[.val (.ref a0), .val (.int p1), .val (.ref tt), .val (.int ((Int32.ofNat xs.length) * (8 : Int32))), .val (.int i)] [])) t
        refine XS.aloadN Xl.here hx rfl (hb hby d4_50) rfl rfl ?_
        show Steps p.tables e below (T0.setTop (mkF m 51 #[.val (.ref a0), .val (.int p1), .val (.ref tt), .val (.int ((Int32.ofNat xs.length) * (8 : Int32))), .val (.int i)] [(.ref tt)])) t
        refine XS.iload Xl.here hx rfl (hb hby d4_51) rfl ?_
        show Steps p.tables e below (T0.setTop (mkF m 53 #[.val (.ref a0), .val (.int p1), .val (.ref tt), .val (.int ((Int32.ofNat xs.length) * (8 : Int32))), .val (.int i)] [(.int i), (.ref tt)])) t
        refine XS.bipush Xl.here hx rfl (hb hby d4_53) ?_
        show Steps p.tables e below (T0.setTop (mkF m 55 #[.val (.ref a0), .val (.int p1), .val (.ref tt), .val (.int ((Int32.ofNat xs.length) * (8 : Int32))), .val (.int i)] [(.int (8 : Int32)), (.int i), (.ref tt)])) t
        refine XS.idiv Xl.here hx rfl (hb hby d4_55) rfl (by decide) ?_
        show Steps p.tables e below (T0.setTop (mkF m 56 #[.val (.ref a0), .val (.int p1), .val (.ref tt), .val (.int ((Int32.ofNat xs.length) * (8 : Int32))), .val (.int i)] [(.int (i / (8 : Int32))), (.ref tt)])) t
        jvm_step Xl.here [Xl.here.top, hx, (hb hby d4_56), Value.category]
        exact kt
      obtain ⟨kk5, cl5, Ar5, qz5, S5, N5a, H5, G5⟩ := id (Ol)
      have hin5 : ¬ ((i / (8 : Int32)) < 0 ∨ cl5.slots.size ≤ ((i / (8 : Int32))).toNatClampNeg) := inb_of S5 (by rw [hyl]; exact q1)
      have hat5 : cl5.slots[((i / (8 : Int32))).toNatClampNeg]? = some (.int (ys.getD ((i / (8 : Int32))).toNatClampNeg 0)) := H5.at hin5 (own_getv _ _)
      refine OGo.step (F' := T0.setTop (mkF m 58 #[.val (.ref a0), .val (.int p1), .val (.ref tt), .val (.int ((Int32.ofNat xs.length) * (8 : Int32))), .val (.int i)] [(.int (ys.getD ((i / (8 : Int32))).toNatClampNeg 0)), (.int (i / (8 : Int32))), (.ref tt)])) (fun t kt => ?_) ?_
      · show Steps p.tables e below (T0.setTop (mkF m 57 #[.val (.ref a0), .val (.int p1), .val (.ref tt), .val (.int ((Int32.ofNat xs.length) * (8 : Int32))), .val (.int i)] [(.int (i / (8 : Int32))), (.ref tt), (.int (i / (8 : Int32))), (.ref tt)])) t
        refine Xl.baloadBytes hx (j := (i / (8 : Int32))) (v := (.int (ys.getD ((i / (8 : Int32))).toNatClampNeg 0))) (by rw [el]; exact Ar5.1) (State.isArrayOf_alike hZ.alike Ar5.2.1) Ar5.2.2 hin5 hat5 (g := (mkF m 57 #[.val (.ref a0), .val (.int p1), .val (.ref tt), .val (.int ((Int32.ofNat xs.length) * (8 : Int32))), .val (.int i)] [(.int (i / (8 : Int32))), (.ref tt), (.int (i / (8 : Int32))), (.ref tt)])) rfl rfl (hb hby d4_57) _ ?_
        exact kt
      refine OGo.step (F' := T0.setTop (mkF m 72 #[.val (.ref a0), .val (.int p1), .val (.ref tt), .val (.int ((Int32.ofNat xs.length) * (8 : Int32))), .val (.int i)] [(.int (((ys.getD ((i / (8 : Int32))).toNatClampNeg 0) &&& ((((128 : Int32) >>> ((i % (8 : Int32)) &&& 31)) ^^^ (-1 : Int32)).toInt8.toInt32)).toInt8.toInt32)), (.int (i / (8 : Int32))), (.ref tt)])) (fun t kt => ?_) ?_
      · show Steps p.tables e below (T0.setTop (mkF m 58 #[.val (.ref a0), .val (.int p1), .val (.ref tt), .val (.int ((Int32.ofNat xs.length) * (8 : Int32))), .val (.int i)] [(.int (ys.getD ((i / (8 : Int32))).toNatClampNeg 0)), (.int (i / (8 : Int32))), (.ref tt)])) t
        refine XS.sipush Xl.here hx rfl (hb hby d4_58) ?_
        show Steps p.tables e below (T0.setTop (mkF m 61 #[.val (.ref a0), .val (.int p1), .val (.ref tt), .val (.int ((Int32.ofNat xs.length) * (8 : Int32))), .val (.int i)] [(.int (128 : Int32)), (.int (ys.getD ((i / (8 : Int32))).toNatClampNeg 0)), (.int (i / (8 : Int32))), (.ref tt)])) t
        refine XS.iload Xl.here hx rfl (hb hby d4_61) rfl ?_
        show Steps p.tables e below (T0.setTop (mkF m 63 #[.val (.ref a0), .val (.int p1), .val (.ref tt), .val (.int ((Int32.ofNat xs.length) * (8 : Int32))), .val (.int i)] [(.int i), (.int (128 : Int32)), (.int (ys.getD ((i / (8 : Int32))).toNatClampNeg 0)), (.int (i / (8 : Int32))), (.ref tt)])) t
        refine XS.bipush Xl.here hx rfl (hb hby d4_63) ?_
        show Steps p.tables e below (T0.setTop (mkF m 65 #[.val (.ref a0), .val (.int p1), .val (.ref tt), .val (.int ((Int32.ofNat xs.length) * (8 : Int32))), .val (.int i)] [(.int (8 : Int32)), (.int i), (.int (128 : Int32)), (.int (ys.getD ((i / (8 : Int32))).toNatClampNeg 0)), (.int (i / (8 : Int32))), (.ref tt)])) t
        refine Jvm.RoadKit.iremM (g := (mkF m 65 #[.val (.ref a0), .val (.int p1), .val (.ref tt), .val (.int ((Int32.ofNat xs.length) * (8 : Int32))), .val (.int i)] [(.int (8 : Int32)), (.int i), (.int (128 : Int32)), (.int (ys.getD ((i / (8 : Int32))).toNatClampNeg 0)), (.int (i / (8 : Int32))), (.ref tt)])) Xl hx rfl (hb hby d4_65) rfl (by decide) ?_
        show Steps p.tables e below (T0.setTop (mkF m 66 #[.val (.ref a0), .val (.int p1), .val (.ref tt), .val (.int ((Int32.ofNat xs.length) * (8 : Int32))), .val (.int i)] [(.int (i % (8 : Int32))), (.int (128 : Int32)), (.int (ys.getD ((i / (8 : Int32))).toNatClampNeg 0)), (.int (i / (8 : Int32))), (.ref tt)])) t
        refine XS.ishr Xl.here hx rfl (hb hby d4_66) rfl ?_
        show Steps p.tables e below (T0.setTop (mkF m 67 #[.val (.ref a0), .val (.int p1), .val (.ref tt), .val (.int ((Int32.ofNat xs.length) * (8 : Int32))), .val (.int i)] [(.int ((128 : Int32) >>> ((i % (8 : Int32)) &&& 31))), (.int (ys.getD ((i / (8 : Int32))).toNatClampNeg 0)), (.int (i / (8 : Int32))), (.ref tt)])) t
        refine XS.iconst Xl.here hx rfl (hb hby d4_67) ?_
        show Steps p.tables e below (T0.setTop (mkF m 68 #[.val (.ref a0), .val (.int p1), .val (.ref tt), .val (.int ((Int32.ofNat xs.length) * (8 : Int32))), .val (.int i)] [(.int (-1 : Int32)), (.int ((128 : Int32) >>> ((i % (8 : Int32)) &&& 31))), (.int (ys.getD ((i / (8 : Int32))).toNatClampNeg 0)), (.int (i / (8 : Int32))), (.ref tt)])) t
        refine XS.ixor Xl.here hx rfl (hb hby d4_68) rfl ?_
        show Steps p.tables e below (T0.setTop (mkF m 69 #[.val (.ref a0), .val (.int p1), .val (.ref tt), .val (.int ((Int32.ofNat xs.length) * (8 : Int32))), .val (.int i)] [(.int (((128 : Int32) >>> ((i % (8 : Int32)) &&& 31)) ^^^ (-1 : Int32))), (.int (ys.getD ((i / (8 : Int32))).toNatClampNeg 0)), (.int (i / (8 : Int32))), (.ref tt)])) t
        refine XS.i2b Xl.here hx rfl (hb hby d4_69) rfl ?_
        show Steps p.tables e below (T0.setTop (mkF m 70 #[.val (.ref a0), .val (.int p1), .val (.ref tt), .val (.int ((Int32.ofNat xs.length) * (8 : Int32))), .val (.int i)] [(.int ((((128 : Int32) >>> ((i % (8 : Int32)) &&& 31)) ^^^ (-1 : Int32)).toInt8.toInt32)), (.int (ys.getD ((i / (8 : Int32))).toNatClampNeg 0)), (.int (i / (8 : Int32))), (.ref tt)])) t
        refine XS.iand Xl.here hx rfl (hb hby d4_70) rfl ?_
        show Steps p.tables e below (T0.setTop (mkF m 71 #[.val (.ref a0), .val (.int p1), .val (.ref tt), .val (.int ((Int32.ofNat xs.length) * (8 : Int32))), .val (.int i)] [(.int ((ys.getD ((i / (8 : Int32))).toNatClampNeg 0) &&& ((((128 : Int32) >>> ((i % (8 : Int32)) &&& 31)) ^^^ (-1 : Int32)).toInt8.toInt32))), (.int (i / (8 : Int32))), (.ref tt)])) t
        refine XS.i2b Xl.here hx rfl (hb hby d4_71) rfl ?_
        exact kt
      obtain ⟨kk6, cl6, Ar6, qz6, S6, N6a, H6, G6⟩ := id (Ol)
      have hin6 : ¬ ((i / (8 : Int32)) < 0 ∨ cl6.slots.size ≤ ((i / (8 : Int32))).toNatClampNeg) := inb_of S6 (by rw [hyl]; exact q1)
      obtain ⟨T6, h6, X6, e6, W6, st6⟩ := stB Xl hx hZ el Ar6 (j := (i / (8 : Int32))) hin6 (g := (mkF m 72 #[.val (.ref a0), .val (.int p1), .val (.ref tt), .val (.int ((Int32.ofNat xs.length) * (8 : Int32))), .val (.int i)] [(.int (((ys.getD ((i / (8 : Int32))).toNatClampNeg 0) &&& ((((128 : Int32) >>> ((i % (8 : Int32)) &&& 31)) ^^^ (-1 : Int32)).toInt8.toInt32)).toInt8.toInt32)), (.int (i / (8 : Int32))), (.ref tt)])) rfl rfl (hb hby d4_72)
      have O6 : OBs Z h6 tt (own_stp ys i) := OBs.set Ol W6 (fits_nar_byte _) ((i / (8 : Int32))).toNatClampNeg rfl (by rw [hyl]; exact q2)
      have KC6 : Keep h0 h6 [] := KCl.wr W6 (Or.inr sz_tt)
      have N6 := Fr.snoc X6 Nl gn_tt
      refine OGo.step st6 ?_
      show OGo _ _ _ _ _ _ _ (T6.setTop (mkF m 73 #[.val (.ref a0), .val (.int p1), .val (.ref tt), .val (.int ((Int32.ofNat xs.length) * (8 : Int32))), .val (.int i)] []))
      refine OGo.step (F' := T6.setTop (mkF m 44 #[.val (.ref a0), .val (.int p1), .val (.ref tt), .val (.int ((Int32.ofNat xs.length) * (8 : Int32))), .val (.int (i + (1 : Int32)))] [])) (fun t kt => ?_) ?_
      · show Steps p.tables e below (T6.setTop (mkF m 73 #[.val (.ref a0), .val (.int p1), .val (.ref tt), .val (.int ((Int32.ofNat xs.length) * (8 : Int32))), .val (.int i)] [])) t
        refine XS.iinc X6.here hx rfl (hb hby d4_73) rfl (l' := #[.val (.ref a0), .val (.int p1), .val (.ref tt), .val (.int ((Int32.ofNat xs.length) * (8 : Int32))), .val (.int (i + (1 : Int32)))]) rfl ?_
        show Steps p.tables e below (T6.setTop (mkF m 76 #[.val (.ref a0), .val (.int p1), .val (.ref tt), .val (.int ((Int32.ofNat xs.length) * (8 : Int32))), .val (.int (i + (1 : Int32)))] [])) t
        refine XS.goto X6.here hx rfl (pc0 := 76) (pc' := 44) rfl (hb hby d4_76) (by decide) (by decide) ?_
        exact kt
      exact ih tt (own_stp ys i) T6 _ _ (i + (1 : Int32)) X6 e6 N6 KC6 sz_tt gn_tt (El.wr W6) O6 ((own_stpl _ _).trans hyl) q3 (by rw [q4]; omega) hf
  refine OGo.step (F' := s₁.setTop (mkF m 1 #[.val (.ref a0), .val (.int p1), .unset, .unset, .unset] [(.ref a0)])) (fun t kt => ?_) ?_
  · show Steps p.tables e below (s₁.setTop (mkF m 0 #[.val (.ref a0), .val (.int p1), .unset, .unset, .unset] [])) t
    refine XS.aloadN X0.here hx rfl (hb hby d4_0) rfl rfl ?_
    exact kt
  refine OGo.callV X0 hx hZ (y := (⟨"com/example/veiled_alerts/veiledalerts/model/IpAddress", "bytes", "()[B"⟩ : MethodName)) (z := (⟨"com/example/veiled_alerts/veiledalerts/model/IpAddress", "bytes", "()[B"⟩ : MethodName)) hown (own_wd hw 21 rfl) (own_wd hw 22 rfl) (notFace_of_selects (args := #[]) (mvT hZ (own_wd hw 24 rfl))) (own_wd hw 24 rfl) (own_wd hw 23 rfl) (own_wd hw 8 rfl) (own_wd hw 25 rfl) (by decide) (rm5 l Z az hw [] a0 t0 h0 n0 Z0 Fb_a0) (W := 0) (by decide) (by decide) E_a0 (g := (mkF m 1 #[.val (.ref a0), .val (.int p1), .unset, .unset, .unset] [(.ref a0)])) rfl (by rw [hml]; rfl) (argsL := []) (rest := []) (lenOf pd_4_2 rfl) rfl (by show 2 * 0 + _ ≤ _; exact Nat.le_of_eq rfl) (hb hby d4_1) rfl e0 (by decide) (by decide) ?_
  rintro _ T7 L7 X7 ⟨hv7, Nq7, e7⟩
  have N7 := Fr.app N0 Nq7
  rw [show (f5 t0) = t0 from rfl] at hv7
  subst hv7
  show OGo _ _ _ _ _ _ _ (T7.setTop (mkF m 4 #[.val (.ref a0), .val (.int p1), .unset, .unset, .unset] [(.ref t0)]))
  obtain ⟨kk8, Vc8⟩ := id (O_t0)
  obtain ⟨T8, h8, X8, e8, E8, A8, P8, st8⟩ := cloneH X7 hx hZ hown (own_wd hw 26 rfl) (own_wd hw 27 rfl) (own_wd hw 31 rfl) (own_wd hw 29 rfl) (own_wd hw 30 rfl) (own_wd hw 32 rfl) e7 Vc8.arh E_t0 (g := (mkF m 4 #[.val (.ref a0), .val (.int p1), .unset, .unset, .unset] [(.ref t0)])) rfl (by rw [hml]; rfl) rfl (hb hby d4_4) (by decide) (W := 0) (cap := 16) (by show 2 * 0 + _ ≤ _; exact Nat.le_of_eq rfl) (by decide) (own_cap hlen) (by decide) (by decide)
  obtain ⟨b8, g8⟩ : ∃ z, z = h0.size := ⟨_, rfl⟩
  rw [← g8] at A8 P8 st8
  have sz_b8 : h0.size ≤ b8 := Nat.le_trans (Keep.refl h0 []).1 (Nat.le_of_eq g8.symm)
  have gn_b8 : n0 ≤ b8 := Nat.le_trans Z0 sz_b8
  have KC8 : Keep h0 h8 [] := (Keep.refl h0 []).ext E8
  have O8 : OBs Z h8 b8 xs := ⟨kk8, A8⟩
  refine OGo.step st8 ?_
  show OGo _ _ _ _ _ _ _ (T8.setTop (mkF m 7 #[.val (.ref a0), .val (.int p1), .unset, .unset, .unset] [(.ref b8)]))
  obtain ⟨T9, X9, e9, st9⟩ := castY X8 hx hZ hown (own_wd hw 33 rfl) e8 (Ins.self P8) (g := (mkF m 7 #[.val (.ref a0), .val (.int p1), .unset, .unset, .unset] [(.ref b8)])) rfl rfl (hb hby d4_7)
  refine OGo.step st9 ?_
  show OGo _ _ _ _ _ _ _ (T9.setTop (mkF m 10 #[.val (.ref a0), .val (.int p1), .unset, .unset, .unset] [(.ref b8)]))
  refine OGo.step (F' := T9.setTop (mkF m 12 #[.val (.ref a0), .val (.int p1), .val (.ref b8), .unset, .unset] [(.ref b8)])) (fun t kt => ?_) ?_
  · show Steps p.tables e below (T9.setTop (mkF m 10 #[.val (.ref a0), .val (.int p1), .unset, .unset, .unset] [(.ref b8)])) t
    refine XS.astoreN X9.here hx rfl (hb hby d4_10) rfl rfl (l' := #[.val (.ref a0), .val (.int p1), .val (.ref b8), .unset, .unset]) rfl ?_
    show Steps p.tables e below (T9.setTop (mkF m 11 #[.val (.ref a0), .val (.int p1), .val (.ref b8), .unset, .unset] [])) t
    refine XS.aloadN X9.here hx rfl (hb hby d4_11) rfl rfl ?_
    exact kt
  obtain ⟨kk10, cl10, Ar10, qz10, S10, N10a, H10, G10⟩ := id (O8)
  refine OGo.step (F' := T9.setTop (mkF m 13 #[.val (.ref a0), .val (.int p1), .val (.ref b8), .unset, .unset] [(.int (Int32.ofNat xs.length))])) (fun t kt => ?_) ?_
  · show Steps p.tables e below (T9.setTop (mkF m 12 #[.val (.ref a0), .val (.int p1), .val (.ref b8), .unset, .unset] [(.ref b8)])) t
    refine X9.arraylength hx (by rw [e9]; exact Ar10.1) (State.isArrayOf_alike hZ.alike Ar10.2.1) (g := (mkF m 12 #[.val (.ref a0), .val (.int p1), .val (.ref b8), .unset, .unset] [(.ref b8)])) rfl rfl (hb hby d4_12) _ ?_
    rw [len_of S10 N10a]
    exact kt
  refine OGo.step (F' := T9.setTop (mkF m 44 #[.val (.ref a0), .val (.int p1), .val (.ref b8), .val (.int ((Int32.ofNat xs.length) * (8 : Int32))), .val (.int p1)] [])) (fun t kt => ?_) ?_
  · show Steps p.tables e below (T9.setTop (mkF m 13 #[.val (.ref a0), .val (.int p1), .val (.ref b8), .unset, .unset] [(.int (Int32.ofNat xs.length))])) t
    refine XS.bipush X9.here hx rfl (hb hby d4_13) ?_
    show Steps p.tables e below (T9.setTop (mkF m 15 #[.val (.ref a0), .val (.int p1), .val (.ref b8), .unset, .unset] [(.int (8 : Int32)), (.int (Int32.ofNat xs.length))])) t
    refine XS.imul X9.here hx rfl (hb hby d4_15) rfl ?_
    show Steps p.tables e below (T9.setTop (mkF m 16 #[.val (.ref a0), .val (.int p1), .val (.ref b8), .unset, .unset] [(.int ((Int32.ofNat xs.length) * (8 : Int32)))])) t
    refine XS.istoreN X9.here hx rfl (hb hby d4_16) rfl (l' := #[.val (.ref a0), .val (.int p1), .val (.ref b8), .val (.int ((Int32.ofNat xs.length) * (8 : Int32))), .unset]) rfl ?_
    show Steps p.tables e below (T9.setTop (mkF m 17 #[.val (.ref a0), .val (.int p1), .val (.ref b8), .val (.int ((Int32.ofNat xs.length) * (8 : Int32))), .unset] [])) t
    refine XS.iloadN X9.here hx rfl (hb hby d4_17) rfl ?_
    show Steps p.tables e below (T9.setTop (mkF m 18 #[.val (.ref a0), .val (.int p1), .val (.ref b8), .val (.int ((Int32.ofNat xs.length) * (8 : Int32))), .unset] [(.int p1)])) t
    refine XS.ifNo X9.here hx rfl (hb hby d4_18) rfl ((if0 _ _).trans (flt hA).1) ?_
    show Steps p.tables e below (T9.setTop (mkF m 21 #[.val (.ref a0), .val (.int p1), .val (.ref b8), .val (.int ((Int32.ofNat xs.length) * (8 : Int32))), .unset] [])) t
    refine XS.iloadN X9.here hx rfl (hb hby d4_21) rfl ?_
    show Steps p.tables e below (T9.setTop (mkF m 22 #[.val (.ref a0), .val (.int p1), .val (.ref b8), .val (.int ((Int32.ofNat xs.length) * (8 : Int32))), .unset] [(.int p1)])) t
    refine XS.iloadN X9.here hx rfl (hb hby d4_22) rfl ?_
    show Steps p.tables e below (T9.setTop (mkF m 23 #[.val (.ref a0), .val (.int p1), .val (.ref b8), .val (.int ((Int32.ofNat xs.length) * (8 : Int32))), .unset] [(.int ((Int32.ofNat xs.length) * (8 : Int32))), (.int p1)])) t
    refine XS.icmpYes X9.here hx rfl (pc0 := 23) (pc' := 41) rfl (hb hby d4_23) rfl (flt hB).2.2.2 (by decide) (by decide) ?_
    show Steps p.tables e below (T9.setTop (mkF m 41 #[.val (.ref a0), .val (.int p1), .val (.ref b8), .val (.int ((Int32.ofNat xs.length) * (8 : Int32))), .unset] [])) t
    refine XS.iloadN X9.here hx rfl (hb hby d4_41) rfl ?_
    show Steps p.tables e below (T9.setTop (mkF m 42 #[.val (.ref a0), .val (.int p1), .val (.ref b8), .val (.int ((Int32.ofNat xs.length) * (8 : Int32))), .unset] [(.int p1)])) t
    refine XS.istore X9.here hx rfl (hb hby d4_42) rfl (l' := #[.val (.ref a0), .val (.int p1), .val (.ref b8), .val (.int ((Int32.ofNat xs.length) * (8 : Int32))), .val (.int p1)]) rfl ?_
    exact kt
  exact lp (8 * xs.length - p1.toNatClampNeg) b8 xs T9 _ _ p1 X9 e9 N7 KC8 sz_b8 gn_b8 P8 O8 rfl hA (own_p8 hlen hA hB) rfl
theorem own_z0 : ¬ ((lcmpW (0 : Int64) (0 : Int64)) < (0 : Int32)) := by decide
theorem own_zs (x : Int32) : (lcmpW ((0 : Int64) >>> (x &&& 0x3f).toInt64) (0 : Int64)) = (0 : Int32) := by
  rw [lw_eq]
  apply Int64.toBitVec_inj.mp
  rw [Int64.toBitVec_shiftRight]
  simp
/-! body 7: com/example/veiled_alerts/veiledalerts/model/Network.address:(J)Lcom/example/veiled_alerts/veiledalerts/model/IpAddress; -/
theorem d7_0 : decode prog_22_method_8_code 0 = .ok (.aload_n 0, 1) := by decide +kernel
theorem d7_1 : decode prog_22_method_8_code 1 = .ok (.invokevirtual 104, 3) := by decide +kernel
theorem d7_4 : decode prog_22_method_8_code 4 = .ok (.istore_n 3, 1) := by decide +kernel
theorem d7_5 : decode prog_22_method_8_code 5 = .ok (.lload_n 1, 1) := by decide +kernel
theorem d7_6 : decode prog_22_method_8_code 6 = .ok (.lconst 0, 1) := by decide +kernel
theorem d7_7 : decode prog_22_method_8_code 7 = .ok (.lcmp, 1) := by decide +kernel
theorem d7_8 : decode prog_22_method_8_code 8 = .ok (.ifCond .lt 17, 3) := by decide +kernel
theorem d7_11 : decode prog_22_method_8_code 11 = .ok (.iload_n 3, 1) := by decide +kernel
theorem d7_12 : decode prog_22_method_8_code 12 = .ok (.bipush 63, 2) := by decide +kernel
theorem d7_14 : decode prog_22_method_8_code 14 = .ok (.if_icmp .ge 26, 3) := by decide +kernel
theorem d7_17 : decode prog_22_method_8_code 17 = .ok (.lload_n 1, 1) := by decide +kernel
theorem d7_18 : decode prog_22_method_8_code 18 = .ok (.iload_n 3, 1) := by decide +kernel
theorem d7_19 : decode prog_22_method_8_code 19 = .ok (.lshr, 1) := by decide +kernel
theorem d7_20 : decode prog_22_method_8_code 20 = .ok (.lconst 0, 1) := by decide +kernel
theorem d7_21 : decode prog_22_method_8_code 21 = .ok (.lcmp, 1) := by decide +kernel
theorem d7_22 : decode prog_22_method_8_code 22 = .ok (.ifCond .eq 18, 3) := by decide +kernel
theorem d7_40 : decode prog_22_method_8_code 40 = .ok (.aload_n 0, 1) := by decide +kernel
theorem d7_41 : decode prog_22_method_8_code 41 = .ok (.getfield 7, 3) := by decide +kernel
theorem d7_44 : decode prog_22_method_8_code 44 = .ok (.invokevirtual 50, 3) := by decide +kernel
theorem d7_47 : decode prog_22_method_8_code 47 = .ok (.invokevirtual 76, 3) := by decide +kernel
theorem d7_50 : decode prog_22_method_8_code 50 = .ok (.checkcast 77, 3) := by decide +kernel
theorem d7_53 : decode prog_22_method_8_code 53 = .ok (.astore 4, 2) := by decide +kernel
theorem d7_55 : decode prog_22_method_8_code 55 = .ok (.lload_n 1, 1) := by decide +kernel
theorem d7_56 : decode prog_22_method_8_code 56 = .ok (.lstore 5, 2) := by decide +kernel
theorem d7_58 : decode prog_22_method_8_code 58 = .ok (.aload 4, 2) := by decide +kernel
theorem d7_60 : decode prog_22_method_8_code 60 = .ok (.arraylength, 1) := by decide +kernel
theorem d7_61 : decode prog_22_method_8_code 61 = .ok (.iconst 1, 1) := by decide +kernel
theorem d7_62 : decode prog_22_method_8_code 62 = .ok (.isub, 1) := by decide +kernel
theorem d7_63 : decode prog_22_method_8_code 63 = .ok (.istore 7, 2) := by decide +kernel
theorem d7_65 : decode prog_22_method_8_code 65 = .ok (.iload 7, 2) := by decide +kernel
theorem d7_67 : decode prog_22_method_8_code 67 = .ok (.ifCond .lt 36, 3) := by decide +kernel
theorem d7_70 : decode prog_22_method_8_code 70 = .ok (.lload 5, 2) := by decide +kernel
theorem d7_72 : decode prog_22_method_8_code 72 = .ok (.lconst 0, 1) := by decide +kernel
theorem d7_73 : decode prog_22_method_8_code 73 = .ok (.lcmp, 1) := by decide +kernel
theorem d7_74 : decode prog_22_method_8_code 74 = .ok (.ifCond .eq 29, 3) := by decide +kernel
theorem d7_103 : decode prog_22_method_8_code 103 = .ok (.new 35, 3) := by decide +kernel
theorem d7_106 : decode prog_22_method_8_code 106 = .ok (.dup, 1) := by decide +kernel
theorem d7_107 : decode prog_22_method_8_code 107 = .ok (.aload 4, 2) := by decide +kernel
theorem d7_109 : decode prog_22_method_8_code 109 = .ok (.invokespecial 84, 3) := by decide +kernel
theorem d7_112 : decode prog_22_method_8_code 112 = .ok (.areturn, 1) := by decide +kernel
theorem pn_7 : plainName "com/example/veiled_alerts/veiledalerts/model/Network" = true := by first | (simp [plainName, overriddenIn]; done) | decide +kernel
theorem pd_7_0 : parseMethodDescriptor "()I" = some ⟨[], some .int⟩ := by decide +kernel
theorem pd_7_1 : parseMethodDescriptor "()[B" = some ⟨[], some (.array .byte)⟩ := by decide +kernel
theorem pd_7_2 : parseMethodDescriptor "([B)V" = some ⟨[(.array .byte)], none⟩ := by decide +kernel
theorem ef_7 (m : MethodId) (x0 : Addr) : entryFrame m #[(.ref x0), (.long (0 : Int64))] 8 = mkF m 0 #[.val (.ref x0), .val (.long (0 : Int64)), .second, .unset, .unset, .unset, .unset, .unset] [] := by first | (simp [entryFrame, mkF, argsToLocals, Value.category]; done) | rfl
def Q7 (Z : State) (a0 : Addr) (ip : Addr) (t0 : Addr) (xs : List Int32) (w_prefixLength_a0 : Int32) (h0 : Heap) (n0 : Nat) (v : Option Value) (h : Heap) (L : List Loc) : Prop := ∃ r : Addr, ∃ t : Addr, v = some (.ref r) ∧ Fr n0 L ∧ Keep h0 h [] ∧ h0.size ≤ r ∧ h0.size ≤ t ∧ Exa Z h r "com/example/veiled_alerts/veiledalerts/model/IpAddress" ∧ Fld Z h r "com/example/veiled_alerts/veiledalerts/model/IpAddress" "bytes" "[B" (.ref t) ∧ Exa Z h t "[B" ∧ OBs Z h t xs
set_option maxRecDepth 65536 in
set_option maxHeartbeats 40000000 in
theorem rm7 (l : Launch) (Z : State) (az : Array Value) (hw : ∀ d ∈ tables_1, d.before az Z = true) (ws : List Jvm.Cond) (a0 : Addr) (ip : Addr) (t0 : Addr) (xs : List Int32) (w_prefixLength_a0 : Int32) (h0 : Heap) (n0 : Nat) (Z0 : n0 ≤ h0.size) (E_a0 : Exa Z h0 a0 "com/example/veiled_alerts/veiledalerts/model/Network") (Fa_a0 : Fld Z h0 a0 "com/example/veiled_alerts/veiledalerts/model/Network" "address" "Lcom/example/veiled_alerts/veiledalerts/model/IpAddress;" (.ref ip)) (E_ip : Exa Z h0 ip "com/example/veiled_alerts/veiledalerts/model/IpAddress") (Fb_ip : Fld Z h0 ip "com/example/veiled_alerts/veiledalerts/model/IpAddress" "bytes" "[B" (.ref t0)) (E_t0 : Exa Z h0 t0 "[B") (O_t0 : OBs Z h0 t0 xs) (hlen : xs.length = 4 ∨ xs.length = 16) (F_prefixLength_a0 : Fld Z h0 a0 "com/example/veiled_alerts/veiledalerts/model/Network" "prefixLength" "I" (.int w_prefixLength_a0)) :
    OCtr l Z (⟨"com/example/veiled_alerts/veiledalerts/model/Network", "address", "(J)Lcom/example/veiled_alerts/veiledalerts/model/IpAddress;"⟩ : MethodName) prog_22_method_8_code 8 (some (.object "com/example/veiled_alerts/veiledalerts/model/IpAddress")) ws ({ frames := 2, cells := 2, slots := 17, locals := 26 } : Room) #[(.ref a0), (.long (0 : Int64))] h0 (Q7 Z a0 ip t0 xs w_prefixLength_a0 h0 n0) := by
  refine OCtr.of (plainFor_of_name pn_7) ?_
  intro p e s m below meth c s₁ X0 hx hlk hZ hown0 hnm hby hml0 hret e0
  have hown : s.vm.findClass "com/example/veiled_alerts/veiledalerts/model/Network" = some m.cls := hown0
  have hml : c.maxLocals = 8 := hml0
  have N0 := Fr.nil n0
  refine OGo.step (fun t k => castTop (ef_7 m a0) k) ?_
  refine OGo.step (F' := s₁.setTop (mkF m 1 #[.val (.ref a0), .val (.long (0 : Int64)), .second, .unset, .unset, .unset, .unset, .unset] [(.ref a0)])) (fun t kt => ?_) ?_
  · show Steps p.tables e below (s₁.setTop (mkF m 0 #[.val (.ref a0), .val (.long (0 : Int64)), .second, .unset, .unset, .unset, .unset, .unset] [])) t
    refine XS.aloadN X0.here hx rfl (hb hby d7_0) rfl rfl ?_
    exact kt
  refine OGo.callV X0 hx hZ (y := (⟨"com/example/veiled_alerts/veiledalerts/model/Network", "hostBits", "()I"⟩ : MethodName)) (z := (⟨"com/example/veiled_alerts/veiledalerts/model/Network", "hostBits", "()I"⟩ : MethodName)) hown (own_wd hw 52 rfl) (own_wd hw 53 rfl) (notFace_of_selects (args := #[]) (mvT hZ (own_wd hw 55 rfl))) (own_wd hw 55 rfl) (own_wd hw 54 rfl) (own_wd hw 19 rfl) (own_wd hw 56 rfl) (by decide) (rm8 l Z az hw [] a0 ip t0 xs w_prefixLength_a0 h0 n0 Z0 E_a0 Fa_a0 E_ip Fb_ip E_t0 O_t0 F_prefixLength_a0) (W := 0) (by decide) (by decide) E_a0 (g := (mkF m 1 #[.val (.ref a0), .val (.long (0 : Int64)), .second, .unset, .unset, .unset, .unset, .unset] [(.ref a0)])) rfl (by rw [hml]; rfl) (argsL := []) (rest := []) (lenOf pd_7_0 rfl) rfl (by show 2 * 0 + _ ≤ _; exact Nat.le_of_eq rfl) (hb hby d7_1) rfl e0 (by decide) (by decide) ?_
  rintro _ T1 L1 X1 ⟨rfl, Nq1, e1⟩
  have N1 := Fr.app N0 Nq1
  show OGo _ _ _ _ _ _ _ (T1.setTop (mkF m 4 #[.val (.ref a0), .val (.long (0 : Int64)), .second, .unset, .unset, .unset, .unset, .unset] [(.int (f8 xs w_prefixLength_a0))]))
  refine OGo.step (F' := T1.setTop (mkF m 14 #[.val (.ref a0), .val (.long (0 : Int64)), .second, .val (.int (f8 xs w_prefixLength_a0)), .unset, .unset, .unset, .unset] [(.int (63 : Int32)), (.int (f8 xs w_prefixLength_a0))])) (fun t kt => ?_) ?_
  · show Steps p.tables e below (T1.setTop (mkF m 4 #[.val (.ref a0), .val (.long (0 : Int64)), .second, .unset, .unset, .unset, .unset, .unset] [(.int (f8 xs w_prefixLength_a0))])) t
    refine XS.istoreN X1.here hx rfl (hb hby d7_4) rfl (l' := #[.val (.ref a0), .val (.long (0 : Int64)), .second, .val (.int (f8 xs w_prefixLength_a0)), .unset, .unset, .unset, .unset]) rfl ?_
    show Steps p.tables e below (T1.setTop (mkF m 5 #[.val (.ref a0), .val (.long (0 : Int64)), .second, .val (.int (f8 xs w_prefixLength_a0)), .unset, .unset, .unset, .unset] [])) t
    refine XS.lloadN X1.here hx rfl (hb hby d7_5) rfl ?_
    show Steps p.tables e below (T1.setTop (mkF m 6 #[.val (.ref a0), .val (.long (0 : Int64)), .second, .val (.int (f8 xs w_prefixLength_a0)), .unset, .unset, .unset, .unset] [(.long (0 : Int64))])) t
    refine XS.lconst X1.here hx rfl (hb hby d7_6) ?_
    show Steps p.tables e below (T1.setTop (mkF m 7 #[.val (.ref a0), .val (.long (0 : Int64)), .second, .val (.int (f8 xs w_prefixLength_a0)), .unset, .unset, .unset, .unset] [(.long (0 : Int64)), (.long (0 : Int64))])) t
    refine XS.lcmp X1.here hx rfl (hb hby d7_7) rfl ?_
    show Steps p.tables e below (T1.setTop (mkF m 8 #[.val (.ref a0), .val (.long (0 : Int64)), .second, .val (.int (f8 xs w_prefixLength_a0)), .unset, .unset, .unset, .unset] [(.int (lcmpW (0 : Int64) (0 : Int64)))])) t
    refine XS.ifNo X1.here hx rfl (hb hby d7_8) rfl ((if0 _ _).trans (flt own_z0).1) ?_
    show Steps p.tables e below (T1.setTop (mkF m 11 #[.val (.ref a0), .val (.long (0 : Int64)), .second, .val (.int (f8 xs w_prefixLength_a0)), .unset, .unset, .unset, .unset] [])) t
    refine XS.iloadN X1.here hx rfl (hb hby d7_11) rfl ?_
    show Steps p.tables e below (T1.setTop (mkF m 12 #[.val (.ref a0), .val (.long (0 : Int64)), .second, .val (.int (f8 xs w_prefixLength_a0)), .unset, .unset, .unset, .unset] [(.int (f8 xs w_prefixLength_a0))])) t
    refine XS.bipush X1.here hx rfl (hb hby d7_12) ?_
    exact kt
  by_cases hc14 : (f8 xs w_prefixLength_a0) < (63 : Int32)
  · refine OGo.step (F' := T1.setTop (mkF m 17 #[.val (.ref a0), .val (.long (0 : Int64)), .second, .val (.int (f8 xs w_prefixLength_a0)), .unset, .unset, .unset, .unset] [])) (fun t kt => ?_) ?_
    · show Steps p.tables e below (T1.setTop (mkF m 14 #[.val (.ref a0), .val (.long (0 : Int64)), .second, .val (.int (f8 xs w_prefixLength_a0)), .unset, .unset, .unset, .unset] [(.int (63 : Int32)), (.int (f8 xs w_prefixLength_a0))])) t
      refine XS.icmpNo X1.here hx rfl (hb hby d7_14) rfl (tlt hc14).2.1 ?_
      exact kt
    refine OGo.step (F' := T1.setTop (mkF m 41 #[.val (.ref a0), .val (.long (0 : Int64)), .second, .val (.int (f8 xs w_prefixLength_a0)), .unset, .unset, .unset, .unset] [(.ref a0)])) (fun t kt => ?_) ?_
    · show Steps p.tables e below (T1.setTop (mkF m 17 #[.val (.ref a0), .val (.long (0 : Int64)), .second, .val (.int (f8 xs w_prefixLength_a0)), .unset, .unset, .unset, .unset] [])) t
      refine XS.lloadN X1.here hx rfl (hb hby d7_17) rfl ?_
      show Steps p.tables e below (T1.setTop (mkF m 18 #[.val (.ref a0), .val (.long (0 : Int64)), .second, .val (.int (f8 xs w_prefixLength_a0)), .unset, .unset, .unset, .unset] [(.long (0 : Int64))])) t
      refine XS.iloadN X1.here hx rfl (hb hby d7_18) rfl ?_
      show Steps p.tables e below (T1.setTop (mkF m 19 #[.val (.ref a0), .val (.long (0 : Int64)), .second, .val (.int (f8 xs w_prefixLength_a0)), .unset, .unset, .unset, .unset] [(.int (f8 xs w_prefixLength_a0)), (.long (0 : Int64))])) t
      refine XS.lshr X1.here hx rfl (hb hby d7_19) rfl ?_
      show Steps p.tables e below (T1.setTop (mkF m 20 #[.val (.ref a0), .val (.long (0 : Int64)), .second, .val (.int (f8 xs w_prefixLength_a0)), .unset, .unset, .unset, .unset] [(.long ((0 : Int64) >>> ((f8 xs w_prefixLength_a0) &&& 0x3f).toInt64))])) t
      refine XS.lconst X1.here hx rfl (hb hby d7_20) ?_
      show Steps p.tables e below (T1.setTop (mkF m 21 #[.val (.ref a0), .val (.long (0 : Int64)), .second, .val (.int (f8 xs w_prefixLength_a0)), .unset, .unset, .unset, .unset] [(.long (0 : Int64)), (.long ((0 : Int64) >>> ((f8 xs w_prefixLength_a0) &&& 0x3f).toInt64))])) t
      refine XS.lcmp X1.here hx rfl (hb hby d7_21) rfl ?_
      show Steps p.tables e below (T1.setTop (mkF m 22 #[.val (.ref a0), .val (.long (0 : Int64)), .second, .val (.int (f8 xs w_prefixLength_a0)), .unset, .unset, .unset, .unset] [(.int (lcmpW ((0 : Int64) >>> ((f8 xs w_prefixLength_a0) &&& 0x3f).toInt64) (0 : Int64)))])) t
      refine XS.ifYes X1.here hx rfl (pc0 := 22) (pc' := 40) rfl (hb hby d7_22) rfl ((if0 _ _).trans (teq (own_zs _)).1) (by decide) (by decide) ?_
      show Steps p.tables e below (T1.setTop (mkF m 40 #[.val (.ref a0), .val (.long (0 : Int64)), .second, .val (.int (f8 xs w_prefixLength_a0)), .unset, .unset, .unset, .unset] [])) t
      refine XS.aloadN X1.here hx rfl (hb hby d7_40) rfl rfl ?_
      exact kt
    obtain ⟨T2, X2, e2, st2⟩ := getF X1 hx hZ hown (host := "") (Or.inl (own_wd hw 43 rfl)) Via.refl e1 Fa_a0 (g := (mkF m 41 #[.val (.ref a0), .val (.long (0 : Int64)), .second, .val (.int (f8 xs w_prefixLength_a0)), .unset, .unset, .unset, .unset] [(.ref a0)])) rfl rfl (hb hby d7_41)
    refine OGo.step st2 ?_
    show OGo _ _ _ _ _ _ _ (T2.setTop (mkF m 44 #[.val (.ref a0), .val (.long (0 : Int64)), .second, .val (.int (f8 xs w_prefixLength_a0)), .unset, .unset, .unset, .unset] [(.ref ip)]))
    refine OGo.callV X2 hx hZ (y := (⟨"com/example/veiled_alerts/veiledalerts/model/IpAddress", "bytes", "()[B"⟩ : MethodName)) (z := (⟨"com/example/veiled_alerts/veiledalerts/model/IpAddress", "bytes", "()[B"⟩ : MethodName)) hown (own_wd hw 21 rfl) (own_wd hw 22 rfl) (notFace_of_selects (args := #[]) (mvT hZ (own_wd hw 24 rfl))) (own_wd hw 24 rfl) (own_wd hw 23 rfl) (own_wd hw 8 rfl) (own_wd hw 25 rfl) (by decide) (rm5 l Z az hw [] ip t0 h0 n0 Z0 Fb_ip) (W := 0) (by decide) (by decide) E_ip (g := (mkF m 44 #[.val (.ref a0), .val (.long (0 : Int64)), .second, .val (.int (f8 xs w_prefixLength_a0)), .unset, .unset, .unset, .unset] [(.ref ip)])) rfl (by rw [hml]; rfl) (argsL := []) (rest := []) (lenOf pd_7_1 rfl) rfl (by show 2 * 0 + _ ≤ _; exact Nat.le_of_eq rfl) (hb hby d7_44) rfl e2 (by decide) (by decide) ?_
    rintro _ T3 L3 X3 ⟨hv3, Nq3, e3⟩
    have N3 := Fr.app N1 Nq3
    rw [show (f5 t0) = t0 from rfl] at hv3
    subst hv3
    show OGo _ _ _ _ _ _ _ (T3.setTop (mkF m 47 #[.val (.ref a0), .val (.long (0 : Int64)), .second, .val (.int (f8 xs w_prefixLength_a0)), .unset, .unset, .unset, .unset] [(.ref t0)]))
    obtain ⟨kk4, Vc4⟩ := id (O_t0)
    obtain ⟨T4, h4, X4, e4, E4, A4, P4, st4⟩ := cloneH X3 hx hZ hown (own_wd hw 26 rfl) (own_wd hw 27 rfl) (own_wd hw 31 rfl) (own_wd hw 29 rfl) (own_wd hw 30 rfl) (own_wd hw 32 rfl) e3 Vc4.arh E_t0 (g := (mkF m 47 #[.val (.ref a0), .val (.long (0 : Int64)), .second, .val (.int (f8 xs w_prefixLength_a0)), .unset, .unset, .unset, .unset] [(.ref t0)])) rfl (by rw [hml]; rfl) rfl (hb hby d7_47) (by decide) (W := 0) (cap := 16) (by show 2 * 0 + _ ≤ _; exact Nat.le_of_eq rfl) (by decide) (own_cap hlen) (by decide) (by decide)
    obtain ⟨b4, g4⟩ : ∃ z, z = h0.size := ⟨_, rfl⟩
    rw [← g4] at A4 P4 st4
    have sz_b4 : h0.size ≤ b4 := Nat.le_trans (Keep.refl h0 []).1 (Nat.le_of_eq g4.symm)
    have gn_b4 : n0 ≤ b4 := Nat.le_trans Z0 sz_b4
    have KC4 : Keep h0 h4 [] := (Keep.refl h0 []).ext E4
    have O4 : OBs Z h4 b4 xs := ⟨kk4, A4⟩
    refine OGo.step st4 ?_
    show OGo _ _ _ _ _ _ _ (T4.setTop (mkF m 50 #[.val (.ref a0), .val (.long (0 : Int64)), .second, .val (.int (f8 xs w_prefixLength_a0)), .unset, .unset, .unset, .unset] [(.ref b4)]))
    obtain ⟨T5, X5, e5, st5⟩ := castY X4 hx hZ hown (own_wd hw 33 rfl) e4 (Ins.self P4) (g := (mkF m 50 #[.val (.ref a0), .val (.long (0 : Int64)), .second, .val (.int (f8 xs w_prefixLength_a0)), .unset, .unset, .unset, .unset] [(.ref b4)])) rfl rfl (hb hby d7_50)
    refine OGo.step st5 ?_
    show OGo _ _ _ _ _ _ _ (T5.setTop (mkF m 53 #[.val (.ref a0), .val (.long (0 : Int64)), .second, .val (.int (f8 xs w_prefixLength_a0)), .unset, .unset, .unset, .unset] [(.ref b4)]))
    refine OGo.step (F' := T5.setTop (mkF m 60 #[.val (.ref a0), .val (.long (0 : Int64)), .second, .val (.int (f8 xs w_prefixLength_a0)), .val (.ref b4), .val (.long (0 : Int64)), .second, .unset] [(.ref b4)])) (fun t kt => ?_) ?_
    · show Steps p.tables e below (T5.setTop (mkF m 53 #[.val (.ref a0), .val (.long (0 : Int64)), .second, .val (.int (f8 xs w_prefixLength_a0)), .unset, .unset, .unset, .unset] [(.ref b4)])) t
      refine XS.astore X5.here hx rfl (hb hby d7_53) rfl rfl (l' := #[.val (.ref a0), .val (.long (0 : Int64)), .second, .val (.int (f8 xs w_prefixLength_a0)), .val (.ref b4), .unset, .unset, .unset]) rfl ?_
      show Steps p.tables e below (T5.setTop (mkF m 55 #[.val (.ref a0), .val (.long (0 : Int64)), .second, .val (.int (f8 xs w_prefixLength_a0)), .val (.ref b4), .unset, .unset, .unset] [])) t
      refine XS.lloadN X5.here hx rfl (hb hby d7_55) rfl ?_
      show Steps p.tables e below (T5.setTop (mkF m 56 #[.val (.ref a0), .val (.long (0 : Int64)), .second, .val (.int (f8 xs w_prefixLength_a0)), .val (.ref b4), .unset, .unset, .unset] [(.long (0 : Int64))])) t
      refine XS.lstore X5.here hx rfl (hb hby d7_56) rfl (l' := #[.val (.ref a0), .val (.long (0 : Int64)), .second, .val (.int (f8 xs w_prefixLength_a0)), .val (.ref b4), .val (.long (0 : Int64)), .second, .unset]) rfl ?_
      show Steps p.tables e below (T5.setTop (mkF m 58 #[.val (.ref a0), .val (.long (0 : Int64)), .second, .val (.int (f8 xs w_prefixLength_a0)), .val (.ref b4), .val (.long (0 : Int64)), .second, .unset] [])) t
      refine XS.aload X5.here hx rfl (hb hby d7_58) rfl rfl ?_
      exact kt
    obtain ⟨kk6, cl6, Ar6, qz6, S6, N6a, H6, G6⟩ := id (O4)
    refine OGo.step (F' := T5.setTop (mkF m 61 #[.val (.ref a0), .val (.long (0 : Int64)), .second, .val (.int (f8 xs w_prefixLength_a0)), .val (.ref b4), .val (.long (0 : Int64)), .second, .unset] [(.int (Int32.ofNat xs.length))])) (fun t kt => ?_) ?_
    · show Steps p.tables e below (T5.setTop (mkF m 60 #[.val (.ref a0), .val (.long (0 : Int64)), .second, .val (.int (f8 xs w_prefixLength_a0)), .val (.ref b4), .val (.long (0 : Int64)), .second, .unset] [(.ref b4)])) t
      refine X5.arraylength hx (by rw [e5]; exact Ar6.1) (State.isArrayOf_alike hZ.alike Ar6.2.1) (g := (mkF m 60 #[.val (.ref a0), .val (.long (0 : Int64)), .second, .val (.int (f8 xs w_prefixLength_a0)), .val (.ref b4), .val (.long (0 : Int64)), .second, .unset] [(.ref b4)])) rfl rfl (hb hby d7_60) _ ?_
      rw [len_of S6 N6a]
      exact kt
    refine OGo.step (F' := T5.setTop (mkF m 67 #[.val (.ref a0), .val (.long (0 : Int64)), .second, .val (.int (f8 xs w_prefixLength_a0)), .val (.ref b4), .val (.long (0 : Int64)), .second, .val (.int ((Int32.ofNat xs.length) - (1 : Int32)))] [(.int ((Int32.ofNat xs.length) - (1 : Int32)))])) (fun t kt => ?_) ?_
    · show Steps p.tables e below (T5.setTop (mkF m 61 #[.val (.ref a0), .val (.long (0 : Int64)), .second, .val (.int (f8 xs w_prefixLength_a0)), .val (.ref b4), .val (.long (0 : Int64)), .second, .unset] [(.int (Int32.ofNat xs.length))])) t
      refine XS.iconst X5.here hx rfl (hb hby d7_61) ?_
      show Steps p.tables e below (T5.setTop (mkF m 62 #[.val (.ref a0), .val (.long (0 : Int64)), .second, .val (.int (f8 xs w_prefixLength_a0)), .val (.ref b4), .val (.long (0 : Int64)), .second, .unset] [(.int (1 : Int32)), (.int (Int32.ofNat xs.length))])) t
      refine XS.isub X5.here hx rfl (hb hby d7_62) rfl ?_
      show Steps p.tables e below (T5.setTop (mkF m 63 #[.val (.ref a0), .val (.long (0 : Int64)), .second, .val (.int (f8 xs w_prefixLength_a0)), .val (.ref b4), .val (.long (0 : Int64)), .second, .unset] [(.int ((Int32.ofNat xs.length) - (1 : Int32)))])) t
      refine XS.istore X5.here hx rfl (hb hby d7_63) rfl (l' := #[.val (.ref a0), .val (.long (0 : Int64)), .second, .val (.int (f8 xs w_prefixLength_a0)), .val (.ref b4), .val (.long (0 : Int64)), .second, .val (.int ((Int32.ofNat xs.length) - (1 : Int32)))]) rfl ?_
      show Steps p.tables e below (T5.setTop (mkF m 65 #[.val (.ref a0), .val (.long (0 : Int64)), .second, .val (.int (f8 xs w_prefixLength_a0)), .val (.ref b4), .val (.long (0 : Int64)), .second, .val (.int ((Int32.ofNat xs.length) - (1 : Int32)))] [])) t
      refine XS.iload X5.here hx rfl (hb hby d7_65) rfl ?_
      exact kt
    by_cases hc67 : ((Int32.ofNat xs.length) - (1 : Int32)) < (0 : Int32)
    · refine OGo.step (F' := T5.setTop (mkF m 103 #[.val (.ref a0), .val (.long (0 : Int64)), .second, .val (.int (f8 xs w_prefixLength_a0)), .val (.ref b4), .val (.long (0 : Int64)), .second, .val (.int ((Int32.ofNat xs.length) - (1 : Int32)))] [])) (fun t kt => ?_) ?_
      · show Steps p.tables e below (T5.setTop (mkF m 67 #[.val (.ref a0), .val (.long (0 : Int64)), .second, .val (.int (f8 xs w_prefixLength_a0)), .val (.ref b4), .val (.long (0 : Int64)), .second, .val (.int ((Int32.ofNat xs.length) - (1 : Int32)))] [(.int ((Int32.ofNat xs.length) - (1 : Int32)))])) t
        refine XS.ifYes X5.here hx rfl (pc0 := 67) (pc' := 103) rfl (hb hby d7_67) rfl ((if0 _ _).trans (tlt hc67).1) (by decide) (by decide) ?_
        exact kt
      obtain ⟨T7, h7, X7, e7, E7, A7, D7, -, st7⟩ := newO X5 hx hZ hown (own_wd hw 37 rfl) (own_wd hw 7 rfl) (own_wd hw 8 rfl) e5 (g := (mkF m 103 #[.val (.ref a0), .val (.long (0 : Int64)), .second, .val (.int (f8 xs w_prefixLength_a0)), .val (.ref b4), .val (.long (0 : Int64)), .second, .val (.int ((Int32.ofNat xs.length) - (1 : Int32)))] [])) rfl (hb hby d7_103) (by decide) (by decide)
      obtain ⟨b7, g7⟩ : ∃ z, z = h4.size := ⟨_, rfl⟩
      rw [← g7] at A7 D7 st7
      have sz_b7 : h0.size ≤ b7 := Nat.le_trans KC4.1 (Nat.le_of_eq g7.symm)
      have gn_b7 : n0 ≤ b7 := Nat.le_trans Z0 sz_b7
      have KC7 : Keep h0 h7 [] := KC4.ext E7
      have F7_bytes : Fld Z h7 b7 "com/example/veiled_alerts/veiledalerts/model/IpAddress" "bytes" "[B" .null := D7 (Or.inr (own_wd hw 16 rfl)) (ty := (.array .byte)) (by decide)
      refine OGo.step st7 ?_
      show OGo _ _ _ _ _ _ _ (T7.setTop (mkF m 106 #[.val (.ref a0), .val (.long (0 : Int64)), .second, .val (.int (f8 xs w_prefixLength_a0)), .val (.ref b4), .val (.long (0 : Int64)), .second, .val (.int ((Int32.ofNat xs.length) - (1 : Int32)))] [(.ref b7)]))
      refine OGo.step (F' := T7.setTop (mkF m 109 #[.val (.ref a0), .val (.long (0 : Int64)), .second, .val (.int (f8 xs w_prefixLength_a0)), .val (.ref b4), .val (.long (0 : Int64)), .second, .val (.int ((Int32.ofNat xs.length) - (1 : Int32)))] [(.ref b4), (.ref b7), (.ref b7)])) (fun t kt => ?_) ?_
      · show Steps p.tables e below (T7.setTop (mkF m 106 #[.val (.ref a0), .val (.long (0 : Int64)), .second, .val (.int (f8 xs w_prefixLength_a0)), .val (.ref b4), .val (.long (0 : Int64)), .second, .val (.int ((Int32.ofNat xs.length) - (1 : Int32)))] [(.ref b7)])) t
        refine XS.dup X7.here hx rfl (hb hby d7_106) rfl rfl ?_
        show Steps p.tables e below (T7.setTop (mkF m 107 #[.val (.ref a0), .val (.long (0 : Int64)), .second, .val (.int (f8 xs w_prefixLength_a0)), .val (.ref b4), .val (.long (0 : Int64)), .second, .val (.int ((Int32.ofNat xs.length) - (1 : Int32)))] [(.ref b7), (.ref b7)])) t
        refine XS.aload X7.here hx rfl (hb hby d7_107) rfl rfl ?_
        exact kt
      refine OGo.callC X7 hx hZ (y := (⟨"com/example/veiled_alerts/veiledalerts/model/IpAddress", "<init>", "([B)V"⟩ : MethodName)) rfl hown (own_wd hw 38 rfl) (own_wd hw 10 rfl) (own_wd hw 8 rfl) (own_wd hw 11 rfl) (by decide) (rm2 l Z az hw [] b7 b4 .null h7 n0 (Nat.le_trans Z0 KC7.1) A7 F7_bytes gn_b7) (W := 1) (by decide) (by decide) (b := b7) (g := (mkF m 109 #[.val (.ref a0), .val (.long (0 : Int64)), .second, .val (.int (f8 xs w_prefixLength_a0)), .val (.ref b4), .val (.long (0 : Int64)), .second, .val (.int ((Int32.ofNat xs.length) - (1 : Int32)))] [(.ref b4), (.ref b7), (.ref b7)])) rfl (by rw [hml]; rfl) (argsL := [(.ref b4)]) (rest := [(.ref b7)]) (lenOf pd_7_2 rfl) rfl (by show 2 * 0 + _ ≤ _; exact Nat.le_of_eq rfl) (hb hby d7_109) rfl e7 (by decide) (by decide) ?_
      rintro _ T8 L8 X8 ⟨rfl, Nq8, K8, P8_0, P8_1⟩
      have KC8 : Keep h0 T8.heap [] := KC7.trans K8 (allS (Or.inr sz_b7) all0)
      have N8 := Fr.app N3 Nq8
      show OGo _ _ _ _ _ _ _ (T8.setTop (mkF m 112 #[.val (.ref a0), .val (.long (0 : Int64)), .second, .val (.int (f8 xs w_prefixLength_a0)), .val (.ref b4), .val (.long (0 : Int64)), .second, .val (.int ((Int32.ofNat xs.length) - (1 : Int32)))] [(.ref b7)]))
      refine OGo.retA X8 hx hlk (t := (.object "com/example/veiled_alerts/veiledalerts/model/IpAddress")) hret rfl rfl rfl (hb hby d7_112) ?_ (by decide) (by decide)
      show Q7 Z a0 ip t0 xs w_prefixLength_a0 h0 n0 _ T8.heap _
      exact ⟨b7, b4, rfl, N8, KC8, sz_b7, sz_b4, P8_0, P8_1, ((P4.ext E7).keep K8), ((O4.ext E7).keep K8 (ninS (Nat.ne_of_lt (Nat.lt_of_lt_of_le O4.lt (Nat.le_of_eq g7.symm))) nin0))⟩
    · refine OGo.step (F' := T5.setTop (mkF m 70 #[.val (.ref a0), .val (.long (0 : Int64)), .second, .val (.int (f8 xs w_prefixLength_a0)), .val (.ref b4), .val (.long (0 : Int64)), .second, .val (.int ((Int32.ofNat xs.length) - (1 : Int32)))] [])) (fun t kt => ?_) ?_
      · show Steps p.tables e below (T5.setTop (mkF m 67 #[.val (.ref a0), .val (.long (0 : Int64)), .second, .val (.int (f8 xs w_prefixLength_a0)), .val (.ref b4), .val (.long (0 : Int64)), .second, .val (.int ((Int32.ofNat xs.length) - (1 : Int32)))] [(.int ((Int32.ofNat xs.length) - (1 : Int32)))])) t
        refine XS.ifNo X5.here hx rfl (hb hby d7_67) rfl ((if0 _ _).trans (flt hc67).1) ?_
        exact kt
      refine OGo.step (F' := T5.setTop (mkF m 103 #[.val (.ref a0), .val (.long (0 : Int64)), .second, .val (.int (f8 xs w_prefixLength_a0)), .val (.ref b4), .val (.long (0 : Int64)), .second, .val (.int ((Int32.ofNat xs.length) - (1 : Int32)))] [])) (fun t kt => ?_) ?_
      · show Steps p.tables e below (T5.setTop (mkF m 70 #[.val (.ref a0), .val (.long (0 : Int64)), .second, .val (.int (f8 xs w_prefixLength_a0)), .val (.ref b4), .val (.long (0 : Int64)), .second, .val (.int ((Int32.ofNat xs.length) - (1 : Int32)))] [])) t
        refine XS.lload X5.here hx rfl (hb hby d7_70) rfl ?_
        show Steps p.tables e below (T5.setTop (mkF m 72 #[.val (.ref a0), .val (.long (0 : Int64)), .second, .val (.int (f8 xs w_prefixLength_a0)), .val (.ref b4), .val (.long (0 : Int64)), .second, .val (.int ((Int32.ofNat xs.length) - (1 : Int32)))] [(.long (0 : Int64))])) t
        refine XS.lconst X5.here hx rfl (hb hby d7_72) ?_
        show Steps p.tables e below (T5.setTop (mkF m 73 #[.val (.ref a0), .val (.long (0 : Int64)), .second, .val (.int (f8 xs w_prefixLength_a0)), .val (.ref b4), .val (.long (0 : Int64)), .second, .val (.int ((Int32.ofNat xs.length) - (1 : Int32)))] [(.long (0 : Int64)), (.long (0 : Int64))])) t
        refine XS.lcmp X5.here hx rfl (hb hby d7_73) rfl ?_
        show Steps p.tables e below (T5.setTop (mkF m 74 #[.val (.ref a0), .val (.long (0 : Int64)), .second, .val (.int (f8 xs w_prefixLength_a0)), .val (.ref b4), .val (.long (0 : Int64)), .second, .val (.int ((Int32.ofNat xs.length) - (1 : Int32)))] [(.int (lcmpW (0 : Int64) (0 : Int64)))])) t
        refine XS.ifYes X5.here hx rfl (pc0 := 74) (pc' := 103) rfl (hb hby d7_74) rfl ((if0 _ _).trans (teq (by decide : (lcmpW (0 : Int64) (0 : Int64)) = (0 : Int32))).1) (by decide) (by decide) ?_
        exact kt
      obtain ⟨T9, h9, X9, e9, E9, A9, D9, -, st9⟩ := newO X5 hx hZ hown (own_wd hw 37 rfl) (own_wd hw 7 rfl) (own_wd hw 8 rfl) e5 (g := (mkF m 103 #[.val (.ref a0), .val (.long (0 : Int64)), .second, .val (.int (f8 xs w_prefixLength_a0)), .val (.ref b4), .val (.long (0 : Int64)), .second, .val (.int ((Int32.ofNat xs.length) - (1 : Int32)))] [])) rfl (hb hby d7_103) (by decide) (by decide)
      obtain ⟨b9, g9⟩ : ∃ z, z = h4.size := ⟨_, rfl⟩
      rw [← g9] at A9 D9 st9
      have sz_b9 : h0.size ≤ b9 := Nat.le_trans KC4.1 (Nat.le_of_eq g9.symm)
      have gn_b9 : n0 ≤ b9 := Nat.le_trans Z0 sz_b9
      have KC9 : Keep h0 h9 [] := KC4.ext E9
      have F9_bytes : Fld Z h9 b9 "com/example/veiled_alerts/veiledalerts/model/IpAddress" "bytes" "[B" .null := D9 (Or.inr (own_wd hw 16 rfl)) (ty := (.array .byte)) (by decide)
      refine OGo.step st9 ?_
      show OGo _ _ _ _ _ _ _ (T9.setTop (mkF m 106 #[.val (.ref a0), .val (.long (0 : Int64)), .second, .val (.int (f8 xs w_prefixLength_a0)), .val (.ref b4), .val (.long (0 : Int64)), .second, .val (.int ((Int32.ofNat xs.length) - (1 : Int32)))] [(.ref b9)]))
      refine OGo.step (F' := T9.setTop (mkF m 109 #[.val (.ref a0), .val (.long (0 : Int64)), .second, .val (.int (f8 xs w_prefixLength_a0)), .val (.ref b4), .val (.long (0 : Int64)), .second, .val (.int ((Int32.ofNat xs.length) - (1 : Int32)))] [(.ref b4), (.ref b9), (.ref b9)])) (fun t kt => ?_) ?_
      · show Steps p.tables e below (T9.setTop (mkF m 106 #[.val (.ref a0), .val (.long (0 : Int64)), .second, .val (.int (f8 xs w_prefixLength_a0)), .val (.ref b4), .val (.long (0 : Int64)), .second, .val (.int ((Int32.ofNat xs.length) - (1 : Int32)))] [(.ref b9)])) t
        refine XS.dup X9.here hx rfl (hb hby d7_106) rfl rfl ?_
        show Steps p.tables e below (T9.setTop (mkF m 107 #[.val (.ref a0), .val (.long (0 : Int64)), .second, .val (.int (f8 xs w_prefixLength_a0)), .val (.ref b4), .val (.long (0 : Int64)), .second, .val (.int ((Int32.ofNat xs.length) - (1 : Int32)))] [(.ref b9), (.ref b9)])) t
        refine XS.aload X9.here hx rfl (hb hby d7_107) rfl rfl ?_
        exact kt
      refine OGo.callC X9 hx hZ (y := (⟨"com/example/veiled_alerts/veiledalerts/model/IpAddress", "<init>", "([B)V"⟩ : MethodName)) rfl hown (own_wd hw 38 rfl) (own_wd hw 10 rfl) (own_wd hw 8 rfl) (own_wd hw 11 rfl) (by decide) (rm2 l Z az hw [] b9 b4 .null h9 n0 (Nat.le_trans Z0 KC9.1) A9 F9_bytes gn_b9) (W := 1) (by decide) (by decide) (b := b9) (g := (mkF m 109 #[.val (.ref a0), .val (.long (0 : Int64)), .second, .val (.int (f8 xs w_prefixLength_a0)), .val (.ref b4), .val (.long (0 : Int64)), .second, .val (.int ((Int32.ofNat xs.length) - (1 : Int32)))] [(.ref b4), (.ref b9), (.ref b9)])) rfl (by rw [hml]; rfl) (argsL := [(.ref b4)]) (rest := [(.ref b9)]) (lenOf pd_7_2 rfl) rfl (by show 2 * 0 + _ ≤ _; exact Nat.le_of_eq rfl) (hb hby d7_109) rfl e9 (by decide) (by decide) ?_
      rintro _ T10 L10 X10 ⟨rfl, Nq10, K10, P10_0, P10_1⟩
      have KC10 : Keep h0 T10.heap [] := KC9.trans K10 (allS (Or.inr sz_b9) all0)
      have N10 := Fr.app N3 Nq10
      show OGo _ _ _ _ _ _ _ (T10.setTop (mkF m 112 #[.val (.ref a0), .val (.long (0 : Int64)), .second, .val (.int (f8 xs w_prefixLength_a0)), .val (.ref b4), .val (.long (0 : Int64)), .second, .val (.int ((Int32.ofNat xs.length) - (1 : Int32)))] [(.ref b9)]))
      refine OGo.retA X10 hx hlk (t := (.object "com/example/veiled_alerts/veiledalerts/model/IpAddress")) hret rfl rfl rfl (hb hby d7_112) ?_ (by decide) (by decide)
      show Q7 Z a0 ip t0 xs w_prefixLength_a0 h0 n0 _ T10.heap _
      exact ⟨b9, b4, rfl, N10, KC10, sz_b9, sz_b4, P10_0, P10_1, ((P4.ext E9).keep K10), ((O4.ext E9).keep K10 (ninS (Nat.ne_of_lt (Nat.lt_of_lt_of_le O4.lt (Nat.le_of_eq g9.symm))) nin0))⟩
  · refine OGo.step (F' := T1.setTop (mkF m 40 #[.val (.ref a0), .val (.long (0 : Int64)), .second, .val (.int (f8 xs w_prefixLength_a0)), .unset, .unset, .unset, .unset] [])) (fun t kt => ?_) ?_
    · show Steps p.tables e below (T1.setTop (mkF m 14 #[.val (.ref a0), .val (.long (0 : Int64)), .second, .val (.int (f8 xs w_prefixLength_a0)), .unset, .unset, .unset, .unset] [(.int (63 : Int32)), (.int (f8 xs w_prefixLength_a0))])) t
      refine XS.icmpYes X1.here hx rfl (pc0 := 14) (pc' := 40) rfl (hb hby d7_14) rfl (flt hc14).2.1 (by decide) (by decide) ?_
      exact kt
    refine OGo.step (F' := T1.setTop (mkF m 41 #[.val (.ref a0), .val (.long (0 : Int64)), .second, .val (.int (f8 xs w_prefixLength_a0)), .unset, .unset, .unset, .unset] [(.ref a0)])) (fun t kt => ?_) ?_
    · show Steps p.tables e below (T1.setTop (mkF m 40 #[.val (.ref a0), .val (.long (0 : Int64)), .second, .val (.int (f8 xs w_prefixLength_a0)), .unset, .unset, .unset, .unset] [])) t
      refine XS.aloadN X1.here hx rfl (hb hby d7_40) rfl rfl ?_
      exact kt
    obtain ⟨T11, X11, e11, st11⟩ := getF X1 hx hZ hown (host := "") (Or.inl (own_wd hw 43 rfl)) Via.refl e1 Fa_a0 (g := (mkF m 41 #[.val (.ref a0), .val (.long (0 : Int64)), .second, .val (.int (f8 xs w_prefixLength_a0)), .unset, .unset, .unset, .unset] [(.ref a0)])) rfl rfl (hb hby d7_41)
    refine OGo.step st11 ?_
    show OGo _ _ _ _ _ _ _ (T11.setTop (mkF m 44 #[.val (.ref a0), .val (.long (0 : Int64)), .second, .val (.int (f8 xs w_prefixLength_a0)), .unset, .unset, .unset, .unset] [(.ref ip)]))
    refine OGo.callV X11 hx hZ (y := (⟨"com/example/veiled_alerts/veiledalerts/model/IpAddress", "bytes", "()[B"⟩ : MethodName)) (z := (⟨"com/example/veiled_alerts/veiledalerts/model/IpAddress", "bytes", "()[B"⟩ : MethodName)) hown (own_wd hw 21 rfl) (own_wd hw 22 rfl) (notFace_of_selects (args := #[]) (mvT hZ (own_wd hw 24 rfl))) (own_wd hw 24 rfl) (own_wd hw 23 rfl) (own_wd hw 8 rfl) (own_wd hw 25 rfl) (by decide) (rm5 l Z az hw [] ip t0 h0 n0 Z0 Fb_ip) (W := 0) (by decide) (by decide) E_ip (g := (mkF m 44 #[.val (.ref a0), .val (.long (0 : Int64)), .second, .val (.int (f8 xs w_prefixLength_a0)), .unset, .unset, .unset, .unset] [(.ref ip)])) rfl (by rw [hml]; rfl) (argsL := []) (rest := []) (lenOf pd_7_1 rfl) rfl (by show 2 * 0 + _ ≤ _; exact Nat.le_of_eq rfl) (hb hby d7_44) rfl e11 (by decide) (by decide) ?_
    rintro _ T12 L12 X12 ⟨hv12, Nq12, e12⟩
    have N12 := Fr.app N1 Nq12
    rw [show (f5 t0) = t0 from rfl] at hv12
    subst hv12
    show OGo _ _ _ _ _ _ _ (T12.setTop (mkF m 47 #[.val (.ref a0), .val (.long (0 : Int64)), .second, .val (.int (f8 xs w_prefixLength_a0)), .unset, .unset, .unset, .unset] [(.ref t0)]))
    obtain ⟨kk13, Vc13⟩ := id (O_t0)
    obtain ⟨T13, h13, X13, e13, E13, A13, P13, st13⟩ := cloneH X12 hx hZ hown (own_wd hw 26 rfl) (own_wd hw 27 rfl) (own_wd hw 31 rfl) (own_wd hw 29 rfl) (own_wd hw 30 rfl) (own_wd hw 32 rfl) e12 Vc13.arh E_t0 (g := (mkF m 47 #[.val (.ref a0), .val (.long (0 : Int64)), .second, .val (.int (f8 xs w_prefixLength_a0)), .unset, .unset, .unset, .unset] [(.ref t0)])) rfl (by rw [hml]; rfl) rfl (hb hby d7_47) (by decide) (W := 0) (cap := 16) (by show 2 * 0 + _ ≤ _; exact Nat.le_of_eq rfl) (by decide) (own_cap hlen) (by decide) (by decide)
    obtain ⟨b13, g13⟩ : ∃ z, z = h0.size := ⟨_, rfl⟩
    rw [← g13] at A13 P13 st13
    have sz_b13 : h0.size ≤ b13 := Nat.le_trans (Keep.refl h0 []).1 (Nat.le_of_eq g13.symm)
    have gn_b13 : n0 ≤ b13 := Nat.le_trans Z0 sz_b13
    have KC13 : Keep h0 h13 [] := (Keep.refl h0 []).ext E13
    have O13 : OBs Z h13 b13 xs := ⟨kk13, A13⟩
    refine OGo.step st13 ?_
    show OGo _ _ _ _ _ _ _ (T13.setTop (mkF m 50 #[.val (.ref a0), .val (.long (0 : Int64)), .second, .val (.int (f8 xs w_prefixLength_a0)), .unset, .unset, .unset, .unset] [(.ref b13)]))
    obtain ⟨T14, X14, e14, st14⟩ := castY X13 hx hZ hown (own_wd hw 33 rfl) e13 (Ins.self P13) (g := (mkF m 50 #[.val (.ref a0), .val (.long (0 : Int64)), .second, .val (.int (f8 xs w_prefixLength_a0)), .unset, .unset, .unset, .unset] [(.ref b13)])) rfl rfl (hb hby d7_50)
    refine OGo.step st14 ?_
    show OGo _ _ _ _ _ _ _ (T14.setTop (mkF m 53 #[.val (.ref a0), .val (.long (0 : Int64)), .second, .val (.int (f8 xs w_prefixLength_a0)), .unset, .unset, .unset, .unset] [(.ref b13)]))
    refine OGo.step (F' := T14.setTop (mkF m 60 #[.val (.ref a0), .val (.long (0 : Int64)), .second, .val (.int (f8 xs w_prefixLength_a0)), .val (.ref b13), .val (.long (0 : Int64)), .second, .unset] [(.ref b13)])) (fun t kt => ?_) ?_
    · show Steps p.tables e below (T14.setTop (mkF m 53 #[.val (.ref a0), .val (.long (0 : Int64)), .second, .val (.int (f8 xs w_prefixLength_a0)), .unset, .unset, .unset, .unset] [(.ref b13)])) t
      refine XS.astore X14.here hx rfl (hb hby d7_53) rfl rfl (l' := #[.val (.ref a0), .val (.long (0 : Int64)), .second, .val (.int (f8 xs w_prefixLength_a0)), .val (.ref b13), .unset, .unset, .unset]) rfl ?_
      show Steps p.tables e below (T14.setTop (mkF m 55 #[.val (.ref a0), .val (.long (0 : Int64)), .second, .val (.int (f8 xs w_prefixLength_a0)), .val (.ref b13), .unset, .unset, .unset] [])) t
      refine XS.lloadN X14.here hx rfl (hb hby d7_55) rfl ?_
      show Steps p.tables e below (T14.setTop (mkF m 56 #[.val (.ref a0), .val (.long (0 : Int64)), .second, .val (.int (f8 xs w_prefixLength_a0)), .val (.ref b13), .unset, .unset, .unset] [(.long (0 : Int64))])) t
      refine XS.lstore X14.here hx rfl (hb hby d7_56) rfl (l' := #[.val (.ref a0), .val (.long (0 : Int64)), .second, .val (.int (f8 xs w_prefixLength_a0)), .val (.ref b13), .val (.long (0 : Int64)), .second, .unset]) rfl ?_
      show Steps p.tables e below (T14.setTop (mkF m 58 #[.val (.ref a0), .val (.long (0 : Int64)), .second, .val (.int (f8 xs w_prefixLength_a0)), .val (.ref b13), .val (.long (0 : Int64)), .second, .unset] [])) t
      refine XS.aload X14.here hx rfl (hb hby d7_58) rfl rfl ?_
      exact kt
    obtain ⟨kk15, cl15, Ar15, qz15, S15, N15a, H15, G15⟩ := id (O13)
    refine OGo.step (F' := T14.setTop (mkF m 61 #[.val (.ref a0), .val (.long (0 : Int64)), .second, .val (.int (f8 xs w_prefixLength_a0)), .val (.ref b13), .val (.long (0 : Int64)), .second, .unset] [(.int (Int32.ofNat xs.length))])) (fun t kt => ?_) ?_
    · show Steps p.tables e below (T14.setTop (mkF m 60 #[.val (.ref a0), .val (.long (0 : Int64)), .second, .val (.int (f8 xs w_prefixLength_a0)), .val (.ref b13), .val (.long (0 : Int64)), .second, .unset] [(.ref b13)])) t
      refine X14.arraylength hx (by rw [e14]; exact Ar15.1) (State.isArrayOf_alike hZ.alike Ar15.2.1) (g := (mkF m 60 #[.val (.ref a0), .val (.long (0 : Int64)), .second, .val (.int (f8 xs w_prefixLength_a0)), .val (.ref b13), .val (.long (0 : Int64)), .second, .unset] [(.ref b13)])) rfl rfl (hb hby d7_60) _ ?_
      rw [len_of S15 N15a]
      exact kt
    refine OGo.step (F' := T14.setTop (mkF m 67 #[.val (.ref a0), .val (.long (0 : Int64)), .second, .val (.int (f8 xs w_prefixLength_a0)), .val (.ref b13), .val (.long (0 : Int64)), .second, .val (.int ((Int32.ofNat xs.length) - (1 : Int32)))] [(.int ((Int32.ofNat xs.length) - (1 : Int32)))])) (fun t kt => ?_) ?_
    · show Steps p.tables e below (T14.setTop (mkF m 61 #[.val (.ref a0), .val (.long (0 : Int64)), .second, .val (.int (f8 xs w_prefixLength_a0)), .val (.ref b13), .val (.long (0 : Int64)), .second, .unset] [(.int (Int32.ofNat xs.length))])) t
      refine XS.iconst X14.here hx rfl (hb hby d7_61) ?_
      show Steps p.tables e below (T14.setTop (mkF m 62 #[.val (.ref a0), .val (.long (0 : Int64)), .second, .val (.int (f8 xs w_prefixLength_a0)), .val (.ref b13), .val (.long (0 : Int64)), .second, .unset] [(.int (1 : Int32)), (.int (Int32.ofNat xs.length))])) t
      refine XS.isub X14.here hx rfl (hb hby d7_62) rfl ?_
      show Steps p.tables e below (T14.setTop (mkF m 63 #[.val (.ref a0), .val (.long (0 : Int64)), .second, .val (.int (f8 xs w_prefixLength_a0)), .val (.ref b13), .val (.long (0 : Int64)), .second, .unset] [(.int ((Int32.ofNat xs.length) - (1 : Int32)))])) t
      refine XS.istore X14.here hx rfl (hb hby d7_63) rfl (l' := #[.val (.ref a0), .val (.long (0 : Int64)), .second, .val (.int (f8 xs w_prefixLength_a0)), .val (.ref b13), .val (.long (0 : Int64)), .second, .val (.int ((Int32.ofNat xs.length) - (1 : Int32)))]) rfl ?_
      show Steps p.tables e below (T14.setTop (mkF m 65 #[.val (.ref a0), .val (.long (0 : Int64)), .second, .val (.int (f8 xs w_prefixLength_a0)), .val (.ref b13), .val (.long (0 : Int64)), .second, .val (.int ((Int32.ofNat xs.length) - (1 : Int32)))] [])) t
      refine XS.iload X14.here hx rfl (hb hby d7_65) rfl ?_
      exact kt
    by_cases hc67 : ((Int32.ofNat xs.length) - (1 : Int32)) < (0 : Int32)
    · refine OGo.step (F' := T14.setTop (mkF m 103 #[.val (.ref a0), .val (.long (0 : Int64)), .second, .val (.int (f8 xs w_prefixLength_a0)), .val (.ref b13), .val (.long (0 : Int64)), .second, .val (.int ((Int32.ofNat xs.length) - (1 : Int32)))] [])) (fun t kt => ?_) ?_
      · show Steps p.tables e below (T14.setTop (mkF m 67 #[.val (.ref a0), .val (.long (0 : Int64)), .second, .val (.int (f8 xs w_prefixLength_a0)), .val (.ref b13), .val (.long (0 : Int64)), .second, .val (.int ((Int32.ofNat xs.length) - (1 : Int32)))] [(.int ((Int32.ofNat xs.length) - (1 : Int32)))])) t
        refine XS.ifYes X14.here hx rfl (pc0 := 67) (pc' := 103) rfl (hb hby d7_67) rfl ((if0 _ _).trans (tlt hc67).1) (by decide) (by decide) ?_
        exact kt
      obtain ⟨T16, h16, X16, e16, E16, A16, D16, -, st16⟩ := newO X14 hx hZ hown (own_wd hw 37 rfl) (own_wd hw 7 rfl) (own_wd hw 8 rfl) e14 (g := (mkF m 103 #[.val (.ref a0), .val (.long (0 : Int64)), .second, .val (.int (f8 xs w_prefixLength_a0)), .val (.ref b13), .val (.long (0 : Int64)), .second, .val (.int ((Int32.ofNat xs.length) - (1 : Int32)))] [])) rfl (hb hby d7_103) (by decide) (by decide)
      obtain ⟨b16, g16⟩ : ∃ z, z = h13.size := ⟨_, rfl⟩
      rw [← g16] at A16 D16 st16
      have sz_b16 : h0.size ≤ b16 := Nat.le_trans KC13.1 (Nat.le_of_eq g16.symm)
      have gn_b16 : n0 ≤ b16 := Nat.le_trans Z0 sz_b16
      have KC16 : Keep h0 h16 [] := KC13.ext E16
      have F16_bytes : Fld Z h16 b16 "com/example/veiled_alerts/veiledalerts/model/IpAddress" "bytes" "[B" .null := D16 (Or.inr (own_wd hw 16 rfl)) (ty := (.array .byte)) (by decide)
      refine OGo.step st16 ?_
      show OGo _ _ _ _ _ _ _ (T16.setTop (mkF m 106 #[.val (.ref a0), .val (.long (0 : Int64)), .second, .val (.int (f8 xs w_prefixLength_a0)), .val (.ref b13), .val (.long (0 : Int64)), .second, .val (.int ((Int32.ofNat xs.length) - (1 : Int32)))] [(.ref b16)]))
      refine OGo.step (F' := T16.setTop (mkF m 109 #[.val (.ref a0), .val (.long (0 : Int64)), .second, .val (.int (f8 xs w_prefixLength_a0)), .val (.ref b13), .val (.long (0 : Int64)), .second, .val (.int ((Int32.ofNat xs.length) - (1 : Int32)))] [(.ref b13), (.ref b16), (.ref b16)])) (fun t kt => ?_) ?_
      · show Steps p.tables e below (T16.setTop (mkF m 106 #[.val (.ref a0), .val (.long (0 : Int64)), .second, .val (.int (f8 xs w_prefixLength_a0)), .val (.ref b13), .val (.long (0 : Int64)), .second, .val (.int ((Int32.ofNat xs.length) - (1 : Int32)))] [(.ref b16)])) t
        refine XS.dup X16.here hx rfl (hb hby d7_106) rfl rfl ?_
        show Steps p.tables e below (T16.setTop (mkF m 107 #[.val (.ref a0), .val (.long (0 : Int64)), .second, .val (.int (f8 xs w_prefixLength_a0)), .val (.ref b13), .val (.long (0 : Int64)), .second, .val (.int ((Int32.ofNat xs.length) - (1 : Int32)))] [(.ref b16), (.ref b16)])) t
        refine XS.aload X16.here hx rfl (hb hby d7_107) rfl rfl ?_
        exact kt
      refine OGo.callC X16 hx hZ (y := (⟨"com/example/veiled_alerts/veiledalerts/model/IpAddress", "<init>", "([B)V"⟩ : MethodName)) rfl hown (own_wd hw 38 rfl) (own_wd hw 10 rfl) (own_wd hw 8 rfl) (own_wd hw 11 rfl) (by decide) (rm2 l Z az hw [] b16 b13 .null h16 n0 (Nat.le_trans Z0 KC16.1) A16 F16_bytes gn_b16) (W := 1) (by decide) (by decide) (b := b16) (g := (mkF m 109 #[.val (.ref a0), .val (.long (0 : Int64)), .second, .val (.int (f8 xs w_prefixLength_a0)), .val (.ref b13), .val (.long (0 : Int64)), .second, .val (.int ((Int32.ofNat xs.length) - (1 : Int32)))] [(.ref b13), (.ref b16), (.ref b16)])) rfl (by rw [hml]; rfl) (argsL := [(.ref b13)]) (rest := [(.ref b16)]) (lenOf pd_7_2 rfl) rfl (by show 2 * 0 + _ ≤ _; exact Nat.le_of_eq rfl) (hb hby d7_109) rfl e16 (by decide) (by decide) ?_
      rintro _ T17 L17 X17 ⟨rfl, Nq17, K17, P17_0, P17_1⟩
      have KC17 : Keep h0 T17.heap [] := KC16.trans K17 (allS (Or.inr sz_b16) all0)
      have N17 := Fr.app N12 Nq17
      show OGo _ _ _ _ _ _ _ (T17.setTop (mkF m 112 #[.val (.ref a0), .val (.long (0 : Int64)), .second, .val (.int (f8 xs w_prefixLength_a0)), .val (.ref b13), .val (.long (0 : Int64)), .second, .val (.int ((Int32.ofNat xs.length) - (1 : Int32)))] [(.ref b16)]))
      refine OGo.retA X17 hx hlk (t := (.object "com/example/veiled_alerts/veiledalerts/model/IpAddress")) hret rfl rfl rfl (hb hby d7_112) ?_ (by decide) (by decide)
      show Q7 Z a0 ip t0 xs w_prefixLength_a0 h0 n0 _ T17.heap _
      exact ⟨b16, b13, rfl, N17, KC17, sz_b16, sz_b13, P17_0, P17_1, ((P13.ext E16).keep K17), ((O13.ext E16).keep K17 (ninS (Nat.ne_of_lt (Nat.lt_of_lt_of_le O13.lt (Nat.le_of_eq g16.symm))) nin0))⟩
    · refine OGo.step (F' := T14.setTop (mkF m 70 #[.val (.ref a0), .val (.long (0 : Int64)), .second, .val (.int (f8 xs w_prefixLength_a0)), .val (.ref b13), .val (.long (0 : Int64)), .second, .val (.int ((Int32.ofNat xs.length) - (1 : Int32)))] [])) (fun t kt => ?_) ?_
      · show Steps p.tables e below (T14.setTop (mkF m 67 #[.val (.ref a0), .val (.long (0 : Int64)), .second, .val (.int (f8 xs w_prefixLength_a0)), .val (.ref b13), .val (.long (0 : Int64)), .second, .val (.int ((Int32.ofNat xs.length) - (1 : Int32)))] [(.int ((Int32.ofNat xs.length) - (1 : Int32)))])) t
        refine XS.ifNo X14.here hx rfl (hb hby d7_67) rfl ((if0 _ _).trans (flt hc67).1) ?_
        exact kt
      refine OGo.step (F' := T14.setTop (mkF m 103 #[.val (.ref a0), .val (.long (0 : Int64)), .second, .val (.int (f8 xs w_prefixLength_a0)), .val (.ref b13), .val (.long (0 : Int64)), .second, .val (.int ((Int32.ofNat xs.length) - (1 : Int32)))] [])) (fun t kt => ?_) ?_
      · show Steps p.tables e below (T14.setTop (mkF m 70 #[.val (.ref a0), .val (.long (0 : Int64)), .second, .val (.int (f8 xs w_prefixLength_a0)), .val (.ref b13), .val (.long (0 : Int64)), .second, .val (.int ((Int32.ofNat xs.length) - (1 : Int32)))] [])) t
        refine XS.lload X14.here hx rfl (hb hby d7_70) rfl ?_
        show Steps p.tables e below (T14.setTop (mkF m 72 #[.val (.ref a0), .val (.long (0 : Int64)), .second, .val (.int (f8 xs w_prefixLength_a0)), .val (.ref b13), .val (.long (0 : Int64)), .second, .val (.int ((Int32.ofNat xs.length) - (1 : Int32)))] [(.long (0 : Int64))])) t
        refine XS.lconst X14.here hx rfl (hb hby d7_72) ?_
        show Steps p.tables e below (T14.setTop (mkF m 73 #[.val (.ref a0), .val (.long (0 : Int64)), .second, .val (.int (f8 xs w_prefixLength_a0)), .val (.ref b13), .val (.long (0 : Int64)), .second, .val (.int ((Int32.ofNat xs.length) - (1 : Int32)))] [(.long (0 : Int64)), (.long (0 : Int64))])) t
        refine XS.lcmp X14.here hx rfl (hb hby d7_73) rfl ?_
        show Steps p.tables e below (T14.setTop (mkF m 74 #[.val (.ref a0), .val (.long (0 : Int64)), .second, .val (.int (f8 xs w_prefixLength_a0)), .val (.ref b13), .val (.long (0 : Int64)), .second, .val (.int ((Int32.ofNat xs.length) - (1 : Int32)))] [(.int (lcmpW (0 : Int64) (0 : Int64)))])) t
        refine XS.ifYes X14.here hx rfl (pc0 := 74) (pc' := 103) rfl (hb hby d7_74) rfl ((if0 _ _).trans (teq (by decide : (lcmpW (0 : Int64) (0 : Int64)) = (0 : Int32))).1) (by decide) (by decide) ?_
        exact kt
      obtain ⟨T18, h18, X18, e18, E18, A18, D18, -, st18⟩ := newO X14 hx hZ hown (own_wd hw 37 rfl) (own_wd hw 7 rfl) (own_wd hw 8 rfl) e14 (g := (mkF m 103 #[.val (.ref a0), .val (.long (0 : Int64)), .second, .val (.int (f8 xs w_prefixLength_a0)), .val (.ref b13), .val (.long (0 : Int64)), .second, .val (.int ((Int32.ofNat xs.length) - (1 : Int32)))] [])) rfl (hb hby d7_103) (by decide) (by decide)
      obtain ⟨b18, g18⟩ : ∃ z, z = h13.size := ⟨_, rfl⟩
      rw [← g18] at A18 D18 st18
      have sz_b18 : h0.size ≤ b18 := Nat.le_trans KC13.1 (Nat.le_of_eq g18.symm)
      have gn_b18 : n0 ≤ b18 := Nat.le_trans Z0 sz_b18
      have KC18 : Keep h0 h18 [] := KC13.ext E18
      have F18_bytes : Fld Z h18 b18 "com/example/veiled_alerts/veiledalerts/model/IpAddress" "bytes" "[B" .null := D18 (Or.inr (own_wd hw 16 rfl)) (ty := (.array .byte)) (by decide)
      refine OGo.step st18 ?_
      show OGo _ _ _ _ _ _ _ (T18.setTop (mkF m 106 #[.val (.ref a0), .val (.long (0 : Int64)), .second, .val (.int (f8 xs w_prefixLength_a0)), .val (.ref b13), .val (.long (0 : Int64)), .second, .val (.int ((Int32.ofNat xs.length) - (1 : Int32)))] [(.ref b18)]))
      refine OGo.step (F' := T18.setTop (mkF m 109 #[.val (.ref a0), .val (.long (0 : Int64)), .second, .val (.int (f8 xs w_prefixLength_a0)), .val (.ref b13), .val (.long (0 : Int64)), .second, .val (.int ((Int32.ofNat xs.length) - (1 : Int32)))] [(.ref b13), (.ref b18), (.ref b18)])) (fun t kt => ?_) ?_
      · show Steps p.tables e below (T18.setTop (mkF m 106 #[.val (.ref a0), .val (.long (0 : Int64)), .second, .val (.int (f8 xs w_prefixLength_a0)), .val (.ref b13), .val (.long (0 : Int64)), .second, .val (.int ((Int32.ofNat xs.length) - (1 : Int32)))] [(.ref b18)])) t
        refine XS.dup X18.here hx rfl (hb hby d7_106) rfl rfl ?_
        show Steps p.tables e below (T18.setTop (mkF m 107 #[.val (.ref a0), .val (.long (0 : Int64)), .second, .val (.int (f8 xs w_prefixLength_a0)), .val (.ref b13), .val (.long (0 : Int64)), .second, .val (.int ((Int32.ofNat xs.length) - (1 : Int32)))] [(.ref b18), (.ref b18)])) t
        refine XS.aload X18.here hx rfl (hb hby d7_107) rfl rfl ?_
        exact kt
      refine OGo.callC X18 hx hZ (y := (⟨"com/example/veiled_alerts/veiledalerts/model/IpAddress", "<init>", "([B)V"⟩ : MethodName)) rfl hown (own_wd hw 38 rfl) (own_wd hw 10 rfl) (own_wd hw 8 rfl) (own_wd hw 11 rfl) (by decide) (rm2 l Z az hw [] b18 b13 .null h18 n0 (Nat.le_trans Z0 KC18.1) A18 F18_bytes gn_b18) (W := 1) (by decide) (by decide) (b := b18) (g := (mkF m 109 #[.val (.ref a0), .val (.long (0 : Int64)), .second, .val (.int (f8 xs w_prefixLength_a0)), .val (.ref b13), .val (.long (0 : Int64)), .second, .val (.int ((Int32.ofNat xs.length) - (1 : Int32)))] [(.ref b13), (.ref b18), (.ref b18)])) rfl (by rw [hml]; rfl) (argsL := [(.ref b13)]) (rest := [(.ref b18)]) (lenOf pd_7_2 rfl) rfl (by show 2 * 0 + _ ≤ _; exact Nat.le_of_eq rfl) (hb hby d7_109) rfl e18 (by decide) (by decide) ?_
      rintro _ T19 L19 X19 ⟨rfl, Nq19, K19, P19_0, P19_1⟩
      have KC19 : Keep h0 T19.heap [] := KC18.trans K19 (allS (Or.inr sz_b18) all0)
      have N19 := Fr.app N12 Nq19
      show OGo _ _ _ _ _ _ _ (T19.setTop (mkF m 112 #[.val (.ref a0), .val (.long (0 : Int64)), .second, .val (.int (f8 xs w_prefixLength_a0)), .val (.ref b13), .val (.long (0 : Int64)), .second, .val (.int ((Int32.ofNat xs.length) - (1 : Int32)))] [(.ref b18)]))
      refine OGo.retA X19 hx hlk (t := (.object "com/example/veiled_alerts/veiledalerts/model/IpAddress")) hret rfl rfl rfl (hb hby d7_112) ?_ (by decide) (by decide)
      show Q7 Z a0 ip t0 xs w_prefixLength_a0 h0 n0 _ T19.heap _
      exact ⟨b18, b13, rfl, N19, KC19, sz_b18, sz_b13, P19_0, P19_1, ((P13.ext E18).keep K19), ((O13.ext E18).keep K19 (ninS (Nat.ne_of_lt (Nat.lt_of_lt_of_le O13.lt (Nat.le_of_eq g18.symm))) nin0))⟩
/-- bit j of an int -/
def own_ib (x : Int32) (j : Nat) : Bool := x.toBitVec.getLsbD j
def own_lb (x : Int64) (j : Nat) : Bool := x.toBitVec.getLsbD j
theorem own_iext {x y : Int32} (h : ∀ b, b < 32 → own_ib x b = own_ib y b) : x = y := Int32.toBitVec_inj.mp (BitVec.eq_of_getLsbD_eq fun b hb => h b hb)
theorem own_lext {x y : Int64} (h : ∀ b, b < 64 → own_lb x b = own_lb y b) : x = y := Int64.toBitVec_inj.mp (BitVec.eq_of_getLsbD_eq fun b hb => h b hb)
theorem own_b_lshl (x : Int64) (q : Int32) (k : Nat) (hk : q.toBitVec.toNat % 64 = k) (b : Nat) : own_lb (x <<< (q &&& 0x3f).toInt64) b = (decide (b < 64) && !decide (b < k) && own_lb x (b - k)) := by
  show (x.toBitVec <<< ((q &&& 0x3f).toInt64.toBitVec.smod 64)).getLsbD b = _
  rw [BitVec.shiftLeft_eq', (sm64 q k hk).1, smod64 k (sm64 q k hk).2, BitVec.getLsbD_shiftLeft]; rfl
theorem own_b_ishl (x q : Int32) (k : Nat) (hk : q.toBitVec.toNat % 32 = k) (b : Nat) : own_ib (x <<< (q &&& 31)) b = (decide (b < 32) && !decide (b < k) && own_ib x (b - k)) := by
  show (x.toBitVec <<< ((q &&& 31).toBitVec.smod 32)).getLsbD b = _
  rw [BitVec.shiftLeft_eq', sm32 q k hk, BitVec.getLsbD_shiftLeft]; rfl
theorem own_b_lushr (x : Int64) (q : Int32) (k : Nat) (hk : q.toBitVec.toNat % 64 = k) (b : Nat) : own_lb ((x.toUInt64 >>> (q &&& 0x3f).toInt64.toUInt64).toInt64) b = own_lb x (k + b) := by
  show (x.toBitVec >>> ((q &&& 0x3f).toInt64.toBitVec % 64)).getLsbD b = _
  have h5 := (sm64 q k hk).2
  rw [BitVec.ushiftRight_eq', BitVec.getLsbD_ushiftRight, BitVec.toNat_umod, (sm64 q k hk).1, BitVec.toNat_ofNat, show (k % 2 ^ 64 % (64 : BitVec 64).toNat) = k from by show k % 2 ^ 64 % 64 = k; omega]; rfl
theorem own_b_iushr (x q : Int32) (k : Nat) (hk : q.toBitVec.toNat % 32 = k) (b : Nat) : own_ib ((x.toUInt32 >>> (q &&& 31).toUInt32).toInt32) b = own_ib x (k + b) := by
  show (x.toBitVec >>> ((q &&& 31).toBitVec % 32)).getLsbD b = _
  have h1 : (q &&& 31).toBitVec.toNat = k := by
    show (q.toBitVec &&& (31 : Int32).toBitVec).toNat = _
    rw [BitVec.toNat_and, show (31 : Int32).toBitVec.toNat = 2 ^ 5 - 1 from by decide, Nat.and_two_pow_sub_one_eq_mod]; exact hk
  rw [BitVec.ushiftRight_eq', BitVec.getLsbD_ushiftRight, BitVec.toNat_umod, h1, show (k % (32 : BitVec 32).toNat) = k from by show k % 32 = k; omega]; rfl
theorem own_b_i2b (x : Int32) (j : Nat) (h : j < 8) : own_ib x.toInt8.toInt32 j = own_ib x j := by
  show (((x.toBitVec.signExtend 8)).signExtend 32).getLsbD j = x.toBitVec.getLsbD j
  rw [BitVec.getLsbD_signExtend, BitVec.getLsbD_signExtend, if_pos h, if_pos (by omega : j < 32)]
  simp only [show j < 32 by omega, h, decide_true, Bool.true_and]
theorem own_b_nar (x : Int32) (j : Nat) (h : j < 8) : own_ib (nar .byte x) j = own_ib x j := own_b_i2b x j h
theorem own_b_l2i (x : Int64) (j : Nat) (h : j < 32) : own_ib x.toInt32 j = own_lb x j := by
  show (x.toBitVec.signExtend 32).getLsbD j = x.toBitVec.getLsbD j
  rw [BitVec.getLsbD_signExtend, if_pos (by omega : j < 64)]
  simp only [h, decide_true, Bool.true_and]
theorem own_b_i2l (x : Int32) (j : Nat) (h : j < 32) : own_lb x.toInt64 j = own_ib x j := by
  show (x.toBitVec.signExtend 64).getLsbD j = x.toBitVec.getLsbD j
  rw [BitVec.getLsbD_signExtend, if_pos h]
  simp only [show j < 64 by omega, decide_true, Bool.true_and]
theorem own_b_and (x y : Int32) (j : Nat) : own_ib (x &&& y) j = (own_ib x j && own_ib y j) := by
  show (x.toBitVec &&& y.toBitVec).getLsbD j = _
  rw [BitVec.getLsbD_and]; rfl
theorem own_b_land (x y : Int64) (j : Nat) : own_lb (x &&& y) j = (own_lb x j && own_lb y j) := by
  show (x.toBitVec &&& y.toBitVec).getLsbD j = _
  rw [BitVec.getLsbD_and]; rfl
theorem own_b_or (x y : Int32) (j : Nat) : own_ib (x ||| y) j = (own_ib x j || own_ib y j) := by
  show (x.toBitVec ||| y.toBitVec).getLsbD j = _
  rw [BitVec.getLsbD_or]; rfl
theorem own_b_lor (x y : Int64) (j : Nat) : own_lb (x ||| y) j = (own_lb x j || own_lb y j) := by
  show (x.toBitVec ||| y.toBitVec).getLsbD j = _
  rw [BitVec.getLsbD_or]; rfl
theorem own_b_255 (j : Nat) : own_ib (255 : Int32) j = decide (j < 8) := by
  by_cases h : j < 32
  · have : ∀ j : Fin 32, (255 : Int32).toBitVec.getLsbD j.val = decide (j.val < 8) := by decide
    exact this ⟨j, h⟩
  · rw [decide_eq_false (by omega : ¬ j < 8)]; exact BitVec.getLsbD_of_ge _ _ (by omega)
theorem own_b_l255 (j : Nat) : own_lb (255 : Int64) j = decide (j < 8) := by
  by_cases h : j < 64
  · have : ∀ j : Fin 64, (255 : Int64).toBitVec.getLsbD j.val = decide (j.val < 8) := by decide
    exact this ⟨j, h⟩
  · rw [decide_eq_false (by omega : ¬ j < 8)]; exact BitVec.getLsbD_of_ge _ _ (by omega)
theorem own_b_m1 (j : Nat) (h : j < 32) : own_ib (-1 : Int32) j = true := by
  have : ∀ j : Fin 32, (-1 : Int32).toBitVec.getLsbD j.val = true := by decide
  exact this ⟨j, h⟩
theorem own_b_lm1 (j : Nat) (h : j < 64) : own_lb (-1 : Int64) j = true := by
  have : ∀ j : Fin 64, (-1 : Int64).toBitVec.getLsbD j.val = true := by decide
  exact this ⟨j, h⟩
theorem own_b_0 (j : Nat) : own_ib (0 : Int32) j = false := by show (0#32).getLsbD j = false; simp
theorem own_b_l0 (j : Nat) : own_lb (0 : Int64) j = false := by show (0#64).getLsbD j = false; simp
/-- one byte of a long, laid at its place -/
theorem own_b_put (y : Int32) (q : Int32) (t : Nat) (hk : q.toBitVec.toNat % 64 = 8 * t) (b : Nat) (hb : b < 64) : own_lb (((y.toInt64) &&& (255 : Int64)) <<< (q &&& 0x3f).toInt64) b = (decide (b / 8 = t) && own_ib y (b % 8)) := by
  rw [own_b_lshl _ _ (8 * t) hk, own_b_land, own_b_l255]
  by_cases h : b / 8 = t
  · rw [own_b_i2l _ _ (by omega), show b - 8 * t = b % 8 by omega]; simp [h, hb, show ¬ b < 8 * t by omega, show b % 8 < 8 by omega]
  · by_cases h1 : b < 8 * t
    · simp [h1, h]
    · simp [h, h1, show ¬ b - 8 * t < 8 by omega]
theorem own_b_pu0 (y : Int32) (b : Nat) (hb : b < 64) : own_lb ((y.toInt64) &&& (255 : Int64)) b = (decide (b / 8 = 0) && own_ib y (b % 8)) := by
  rw [own_b_land, own_b_l255]
  by_cases h : b < 8
  · rw [own_b_i2l _ _ (by omega), show b % 8 = b by omega]; simp [h, show b / 8 = 0 by omega]
  · simp [h, show ¬ b / 8 = 0 by omega]
theorem own_b_pti (y : Int32) (q : Int32) (t : Nat) (hk : q.toBitVec.toNat % 32 = 8 * t) (b : Nat) (hb : b < 32) : own_ib ((y &&& (255 : Int32)) <<< (q &&& 31)) b = (decide (b / 8 = t) && own_ib y (b % 8)) := by
  rw [own_b_ishl _ _ (8 * t) hk, own_b_and, own_b_255]
  by_cases h : b / 8 = t
  · rw [show b - 8 * t = b % 8 by omega]; simp [h, hb, show ¬ b < 8 * t by omega, show b % 8 < 8 by omega]
  · by_cases h1 : b < 8 * t
    · simp [h1, h]
    · simp [h, h1, show ¬ b - 8 * t < 8 by omega]
theorem own_b_pi0 (y : Int32) (b : Nat) : own_ib (y &&& (255 : Int32)) b = (decide (b / 8 = 0) && own_ib y (b % 8)) := by
  rw [own_b_and, own_b_255, Bool.and_comm]
  by_cases h : b < 8
  · rw [show b % 8 = b by omega]; simp [h, show b / 8 = 0 by omega]
  · simp [h, show ¬ b / 8 = 0 by omega]
theorem own_g0 (zs : List Int32) (b : Nat) (hb : b < 64) : own_lb (f12_0 zs) b = own_ib (zs.getD (7 - b / 8) 0) (b % 8) := by
  unfold f12_0
  rw [own_b_lor, own_b_lor, own_b_lor, own_b_lor, own_b_lor, own_b_lor, own_b_lor, own_b_put _ _ 7 rfl b hb, own_b_put _ _ 6 rfl b hb, own_b_put _ _ 5 rfl b hb, own_b_put _ _ 4 rfl b hb, own_b_put _ _ 3 rfl b hb, own_b_put _ _ 2 rfl b hb, own_b_put _ _ 1 rfl b hb, own_b_pu0 _ b hb]
  have hq : b / 8 = 0 ∨ b / 8 = 1 ∨ b / 8 = 2 ∨ b / 8 = 3 ∨ b / 8 = 4 ∨ b / 8 = 5 ∨ b / 8 = 6 ∨ b / 8 = 7 := by omega
  rcases hq with h | h | h | h | h | h | h | h <;> simp [h]
theorem own_g8 (zs : List Int32) (b : Nat) (hb : b < 64) : own_lb (f12_8 zs) b = own_ib (zs.getD (15 - b / 8) 0) (b % 8) := by
  unfold f12_8
  rw [own_b_lor, own_b_lor, own_b_lor, own_b_lor, own_b_lor, own_b_lor, own_b_lor, own_b_put _ _ 7 rfl b hb, own_b_put _ _ 6 rfl b hb, own_b_put _ _ 5 rfl b hb, own_b_put _ _ 4 rfl b hb, own_b_put _ _ 3 rfl b hb, own_b_put _ _ 2 rfl b hb, own_b_put _ _ 1 rfl b hb, own_b_pu0 _ b hb]
  have hq : b / 8 = 0 ∨ b / 8 = 1 ∨ b / 8 = 2 ∨ b / 8 = 3 ∨ b / 8 = 4 ∨ b / 8 = 5 ∨ b / 8 = 6 ∨ b / 8 = 7 := by omega
  rcases hq with h | h | h | h | h | h | h | h <;> simp [h]
theorem own_g4 (zs : List Int32) (b : Nat) (hb : b < 32) : own_ib (f10_0 zs) b = own_ib (zs.getD (3 - b / 8) 0) (b % 8) := by
  unfold f10_0
  rw [own_b_or, own_b_or, own_b_or, own_b_pti _ _ 3 rfl b hb, own_b_pti _ _ 2 rfl b hb, own_b_pti _ _ 1 rfl b hb, own_b_pi0]
  have hq : b / 8 = 0 ∨ b / 8 = 1 ∨ b / 8 = 2 ∨ b / 8 = 3 := by omega
  rcases hq with h | h | h | h <;> simp [h]
def own_xs (hi lo : Int64) : List Int32 := [own_v0 hi, own_v1 hi, own_v2 hi, own_v3 hi, own_v4 hi, own_v5 hi, own_v6 hi, own_v7 hi, own_v0 lo, own_v1 lo, own_v2 lo, own_v3 lo, own_v4 lo, own_v5 lo, own_v6 lo, own_v7 lo]
def own_ys (a : Int32) : List Int32 := [own_w0 a, own_w1 a, own_w2 a, own_w3 a]
theorem own_bv (q : Int64) (s : Int32) (k : Nat) (hk : s.toBitVec.toNat % 64 = k) (j : Nat) (h : j < 8) : own_ib (nar .byte ((((q.toUInt64 >>> (s &&& 0x3f).toInt64.toUInt64).toInt64).toInt32).toInt8.toInt32)) j = own_lb q (k + j) := by
  rw [own_b_nar _ _ h, own_b_i2b _ _ h, own_b_l2i _ _ (by omega), own_b_lushr _ _ k hk]
theorem own_bw (q : Int32) (s : Int32) (k : Nat) (hk : s.toBitVec.toNat % 32 = k) (j : Nat) (h : j < 8) : own_ib (nar .byte ((((q.toUInt32 >>> (s &&& 31).toUInt32).toInt32)).toInt8.toInt32)) j = own_ib q (k + j) := by
  rw [own_b_nar _ _ h, own_b_i2b _ _ h, own_b_iushr _ _ k hk]
theorem own_xhi (hi lo : Int64) (b : Nat) (hb : b < 64) : own_ib ((own_xs hi lo).getD (7 - b / 8) 0) (b % 8) = own_lb hi b := by
  have hj : b % 8 < 8 := by omega
  have hq : b / 8 = 0 ∨ b / 8 = 1 ∨ b / 8 = 2 ∨ b / 8 = 3 ∨ b / 8 = 4 ∨ b / 8 = 5 ∨ b / 8 = 6 ∨ b / 8 = 7 := by omega
  rcases hq with h | h | h | h | h | h | h | h <;> rw [h]
  · show own_ib (nar .byte (hi.toInt32.toInt8.toInt32)) (b % 8) = _
    rw [own_b_nar _ _ hj, own_b_i2b _ _ hj, own_b_l2i _ _ (by omega), show b % 8 = b by omega]
  · exact (own_bv hi (8 : Int32) 8 rfl _ hj).trans (by rw [show 8 + b % 8 = b by omega])
  · exact (own_bv hi (16 : Int32) 16 rfl _ hj).trans (by rw [show 16 + b % 8 = b by omega])
  · exact (own_bv hi (24 : Int32) 24 rfl _ hj).trans (by rw [show 24 + b % 8 = b by omega])
  · exact (own_bv hi (32 : Int32) 32 rfl _ hj).trans (by rw [show 32 + b % 8 = b by omega])
  · exact (own_bv hi (40 : Int32) 40 rfl _ hj).trans (by rw [show 40 + b % 8 = b by omega])
  · exact (own_bv hi (48 : Int32) 48 rfl _ hj).trans (by rw [show 48 + b % 8 = b by omega])
  · exact (own_bv hi (56 : Int32) 56 rfl _ hj).trans (by rw [show 56 + b % 8 = b by omega])
theorem own_xlo (hi lo : Int64) (b : Nat) (hb : b < 64) : own_ib ((own_xs hi lo).getD (15 - b / 8) 0) (b % 8) = own_lb lo b := by
  have e : (own_xs hi lo).getD (15 - b / 8) 0 = (own_xs lo lo).getD (7 - b / 8) 0 := by
    have hq : b / 8 = 0 ∨ b / 8 = 1 ∨ b / 8 = 2 ∨ b / 8 = 3 ∨ b / 8 = 4 ∨ b / 8 = 5 ∨ b / 8 = 6 ∨ b / 8 = 7 := by omega
    rcases hq with h | h | h | h | h | h | h | h <;> rw [h]
    · exact (show own_v7 lo = own_v7 lo from rfl)
    · exact (show own_v6 lo = own_v6 lo from rfl)
    · exact (show own_v5 lo = own_v5 lo from rfl)
    · exact (show own_v4 lo = own_v4 lo from rfl)
    · exact (show own_v3 lo = own_v3 lo from rfl)
    · exact (show own_v2 lo = own_v2 lo from rfl)
    · exact (show own_v1 lo = own_v1 lo from rfl)
    · exact (show own_v0 lo = own_v0 lo from rfl)
  rw [e]; exact own_xhi lo lo b hb
theorem own_ya (a : Int32) (b : Nat) (hb : b < 32) : own_ib ((own_ys a).getD (3 - b / 8) 0) (b % 8) = own_ib a b := by
  have hj : b % 8 < 8 := by omega
  have hq : b / 8 = 0 ∨ b / 8 = 1 ∨ b / 8 = 2 ∨ b / 8 = 3 := by omega
  rcases hq with h | h | h | h <;> rw [h]
  · show own_ib (nar .byte (a.toInt8.toInt32)) (b % 8) = _
    rw [own_b_nar _ _ hj, own_b_i2b _ _ hj, show b % 8 = b by omega]
  · exact (own_bw a (8 : Int32) 8 rfl _ hj).trans (by rw [show 8 + b % 8 = b by omega])
  · exact (own_bw a (16 : Int32) 16 rfl _ hj).trans (by rw [show 16 + b % 8 = b by omega])
  · exact (own_bw a (24 : Int32) 24 rfl _ hj).trans (by rw [show 24 + b % 8 = b by omega])
/-- the mask of one bit -/
theorem own_msk (i : Int32) (h0 : ¬ i < 0) (j : Nat) (hj : j < 8) : own_ib ((((128 : Int32) >>> ((i % (8 : Int32)) &&& 31)) ^^^ (-1 : Int32)).toInt8.toInt32) j = !decide (7 - j = i.toNatClampNeg % 8) := by
  have e := (c_irem i (8 : Int32) 8 rfl).1
  have h0' : 0 ≤ i.toInt := by simpa only [Int32.lt_iff_toInt_lt, Int32.reduceToInt, Int.not_lt] using h0
  obtain ⟨n, hn, hn8⟩ : ∃ n : Nat, i.toNatClampNeg % 8 = n ∧ n < 8 := ⟨_, rfl, by omega⟩
  have er : i % (8 : Int32) = Int32.ofNat n := by
    have : ∀ n : Fin 8, (Int32.ofNat n.val).toInt = n.val := by decide
    rw [← Int32.toInt_inj, this ⟨n, hn8⟩, e h0']
    simp only [Int32.toNatClampNeg] at hn
    show i.toInt % 8 = (n : Int); omega
  rw [er, hn]
  have : ∀ n j : Fin 8, own_ib ((((128 : Int32) >>> ((Int32.ofNat n.val) &&& 31)) ^^^ (-1 : Int32)).toInt8.toInt32) j.val = !decide (7 - j.val = n.val) := by decide +kernel
  exact this ⟨n, hn8⟩ ⟨j, hj⟩
theorem own_stpb (ys : List Int32) (i : Int32) (h0 : ¬ i < 0) (m j : Nat) (hj : j < 8) (hm : m < ys.length) : own_ib ((own_stp ys i).getD m 0) j = (own_ib (ys.getD m 0) j && !decide (8 * m + 7 - j = i.toNatClampNeg)) := by
  have e := (c_idiv i (8 : Int32) 8 rfl (by decide)).1
  have h0' : 0 ≤ i.toInt := by simpa only [Int32.lt_iff_toInt_lt, Int32.reduceToInt, Int.not_lt] using h0
  have ei : (i / (8 : Int32)).toNatClampNeg = i.toNatClampNeg / 8 := by simp only [Int32.toNatClampNeg, e h0']; omega
  unfold own_stp
  rw [ei]
  generalize hN : i.toNatClampNeg = N at *
  by_cases h : N / 8 = m
  · subst h
    rw [List.getD_eq_getElem?_getD, List.getElem?_set_self hm, Option.getD_some, own_b_nar _ _ hj, own_b_i2b _ _ hj, own_b_and, own_msk i h0 j hj, hN]
    congr 2
    by_cases q : 7 - j = N % 8
    · rw [decide_eq_true q, decide_eq_true (by omega)]
    · rw [decide_eq_false q, decide_eq_false (by omega)]
  · rw [List.getD_eq_getElem?_getD, List.getElem?_set_ne h, ← List.getD_eq_getElem?_getD, decide_eq_false (by omega)]; simp
theorem own_foldb : ∀ (k : Nat) (i : Int32) (ys : List Int32), ¬ i < 0 → i.toNatClampNeg + k < 1000 → ∀ (m j : Nat), j < 8 → m < ys.length → own_ib ((own_fold k i ys).getD m 0) j = (own_ib (ys.getD m 0) j && !decide (i.toNatClampNeg ≤ 8 * m + 7 - j ∧ 8 * m + 7 - j < i.toNatClampNeg + k))
  | 0, i, ys, _, _, m, j, _, _ => by
    show own_ib (ys.getD m 0) j = _
    rw [decide_eq_false (by omega)]; simp
  | k + 1, i, ys, h0, hk, m, j, hj, hm => by
    have a := c_iadd i (1 : Int32)
    have l1 := (i + (1 : Int32)).toInt_lt; have l2 := (i + (1 : Int32)).le_toInt
    have e1 : ¬ (i + (1 : Int32)) < 0 ∧ (i + (1 : Int32)).toNatClampNeg = i.toNatClampNeg + 1 := by
      simp only [Int32.lt_iff_toInt_lt, Int32.toNatClampNeg, Int32.reduceToInt] at *; omega
    show own_ib ((own_fold k (i + (1 : Int32)) (own_stp ys i)).getD m 0) j = _
    rw [own_foldb k (i + (1 : Int32)) (own_stp ys i) e1.1 (by rw [e1.2]; omega) m j hj (by rw [own_stpl]; exact hm), own_stpb ys i h0 m j hj hm, e1.2]
    generalize i.toNatClampNeg = N
    by_cases q : N ≤ 8 * m + 7 - j ∧ 8 * m + 7 - j < N + (k + 1)
    · rw [decide_eq_true q]
      by_cases r : 8 * m + 7 - j = N
      · rw [decide_eq_true r]; simp
      · rw [decide_eq_true (p := _ ∧ _) (by omega)]; simp
    · rw [decide_eq_false q, decide_eq_false (by omega : ¬ 8 * m + 7 - j = N), decide_eq_false (p := _ ∧ _) (by omega)]; simp
theorem own_clrb (p : Int32) (xs : List Int32) (h0 : ¬ p < 0) (hp : p.toNatClampNeg ≤ 8 * xs.length) (hl : xs.length ≤ 16) (m j : Nat) (hj : j < 8) (hm : m < xs.length) : own_ib ((own_clr p xs).getD m 0) j = (own_ib (xs.getD m 0) j && decide (8 * m + 7 - j < p.toNatClampNeg)) := by
  unfold own_clr
  rw [own_foldb _ _ _ h0 (by omega) m j hj hm]
  congr 1
  by_cases q : 8 * m + 7 - j < p.toNatClampNeg
  · rw [decide_eq_true q, decide_eq_false (by omega)]; rfl
  · rw [decide_eq_false q, decide_eq_true (by omega)]; rfl
theorem own_gx0 (hi lo : Int64) : f12_0 (own_xs hi lo) = hi := own_lext fun b hb => by rw [own_g0 _ _ hb, own_xhi _ _ _ hb]
theorem own_gx8 (hi lo : Int64) : f12_8 (own_xs hi lo) = lo := own_lext fun b hb => by rw [own_g8 _ _ hb, own_xlo _ _ _ hb]
theorem own_gy (a : Int32) : f10_0 (own_ys a) = a := own_iext fun b hb => by rw [own_g4 _ _ hb, own_ya _ _ hb]
theorem own_kb (p : Int32) (h : 0 ≤ p.toInt) : p.toBitVec.toNat = p.toNatClampNeg := by
  simp only [Int32.toNatClampNeg]
  show p.toBitVec.toNat = p.toBitVec.toInt.toNat
  have h : 0 ≤ p.toBitVec.toInt := h
  have := p.toBitVec.isLt
  rw [BitVec.toInt_eq_toNat_cond] at *; split at * <;> omega
/-- P, the prefix's length of a v6 -/
def own_P (x : Int32) : Int32 := (x &&& (2147483647 : Int32)) % (129 : Int32)
def own_P4 (x : Int32) : Int32 := (x &&& (2147483647 : Int32)) % (33 : Int32)
theorem own_Pr (x : Int32) : ¬ own_P x < 0 ∧ (own_P x).toNatClampNeg ≤ 128 := by
  have a := c_mask x (2147483647 : Int32) 31 (by decide) (by decide)
  have e := (c_irem (x &&& (2147483647 : Int32)) (129 : Int32) 129 rfl).1
  unfold own_P
  simp only [Int32.lt_iff_toInt_lt, Int32.toNatClampNeg, Int32.reduceToInt] at *
  rw [e (by omega)]; omega
theorem own_P4r (x : Int32) : ¬ own_P4 x < 0 ∧ (own_P4 x).toNatClampNeg ≤ 32 := by
  have a := c_mask x (2147483647 : Int32) 31 (by decide) (by decide)
  have e := (c_irem (x &&& (2147483647 : Int32)) (33 : Int32) 33 rfl).1
  unfold own_P4
  simp only [Int32.lt_iff_toInt_lt, Int32.toNatClampNeg, Int32.reduceToInt] at *
  rw [e (by omega)]; omega
theorem own_ghi (p : Int32) (hi lo m : Int64) (h0 : ¬ p < 0) (hp : p.toNatClampNeg ≤ 128) (hm : ∀ b, b < 64 → own_lb m b = decide (63 - b < p.toNatClampNeg)) : f12_0 (own_clr p (own_xs hi lo)) = hi &&& m := own_lext fun b hb => by
  rw [own_g0 _ _ hb, own_clrb p (own_xs hi lo) h0 hp (Nat.le_refl 16) _ _ (by omega) (by show _ < 16; omega), own_xhi _ _ _ hb, own_b_land, hm b hb, show 8 * (7 - b / 8) + 7 - b % 8 = 63 - b by omega]
theorem own_glo (p : Int32) (hi lo m : Int64) (h0 : ¬ p < 0) (hp : p.toNatClampNeg ≤ 128) (hm : ∀ b, b < 64 → own_lb m b = decide (127 - b < p.toNatClampNeg)) : f12_8 (own_clr p (own_xs hi lo)) = lo &&& m := own_lext fun b hb => by
  rw [own_g8 _ _ hb, own_clrb p (own_xs hi lo) h0 hp (Nat.le_refl 16) _ _ (by omega) (by show _ < 16; omega), own_xlo _ _ _ hb, own_b_land, hm b hb, show 8 * (15 - b / 8) + 7 - b % 8 = 127 - b by omega]
theorem own_gyy (p a m : Int32) (h0 : ¬ p < 0) (hp : p.toNatClampNeg ≤ 32) (hm : ∀ b, b < 32 → own_ib m b = decide (31 - b < p.toNatClampNeg)) : f10_0 (own_clr p (own_ys a)) = a &&& m := own_iext fun b hb => by
  rw [own_g4 _ _ hb, own_clrb p (own_ys a) h0 hp (by decide : 4 ≤ 16) _ _ (by omega) (by show _ < 4; omega), own_ya _ _ hb, own_b_and, hm b hb, show 8 * (3 - b / 8) + 7 - b % 8 = 31 - b by omega]
theorem own_lmk (p c : Int32) (C : Nat) (hc : c.toInt = C) (hC : C = 64 ∨ C = 128) (h0 : C - 64 < p.toInt) (h1 : p.toInt ≤ C) (b : Nat) (hb : b < 64) : own_lb ((-1 : Int64) <<< ((c - p) &&& 0x3f).toInt64) b = decide (C - 1 - b < p.toNatClampNeg) := by
  have a := c_isub c p
  have l1 := (c - p).toInt_lt; have l2 := (c - p).le_toInt
  have e : (c - p).toInt = C - p.toInt := by rcases hC with rfl | rfl <;> omega
  have k := own_kb (c - p) (by omega)
  have q : (c - p).toNatClampNeg = C - p.toNatClampNeg := by simp only [Int32.toNatClampNeg]; omega
  have n0 : (p.toNatClampNeg : Int) = p.toInt := by simp only [Int32.toNatClampNeg]; rcases hC with rfl | rfl <;> omega
  rw [own_b_lshl _ _ (C - p.toNatClampNeg) (by rw [k, q]; rcases hC with rfl | rfl <;> omega) b]
  by_cases g : C - 1 - b < p.toNatClampNeg
  · rw [decide_eq_true g, decide_eq_true hb, decide_eq_false (by omega), own_b_lm1 _ (by omega)]; rfl
  · rw [decide_eq_false g, decide_eq_true (by omega : b < C - p.toNatClampNeg)]; simp
theorem own_imk (p : Int32) (h0 : 0 < p.toInt) (h1 : p.toInt ≤ 32) (b : Nat) (hb : b < 32) : own_ib ((-1 : Int32) <<< (((32 : Int32) - p) &&& 31)) b = decide (31 - b < p.toNatClampNeg) := by
  have a := c_isub (32 : Int32) p
  have l1 := ((32 : Int32) - p).toInt_lt; have l2 := ((32 : Int32) - p).le_toInt
  simp only [Int32.reduceToInt] at a
  have e : ((32 : Int32) - p).toInt = 32 - p.toInt := by omega
  have k := own_kb ((32 : Int32) - p) (by omega)
  have q : ((32 : Int32) - p).toNatClampNeg = 32 - p.toNatClampNeg := by simp only [Int32.toNatClampNeg]; omega
  have n0 : (p.toNatClampNeg : Int) = p.toInt := by simp only [Int32.toNatClampNeg]; omega
  rw [own_b_ishl _ _ (32 - p.toNatClampNeg) (by rw [k, q]; omega) b]
  by_cases g : 31 - b < p.toNatClampNeg
  · rw [decide_eq_true g, decide_eq_true hb, decide_eq_false (by omega), own_b_m1 _ (by omega)]; rfl
  · rw [decide_eq_false g, decide_eq_true (by omega : b < 32 - p.toNatClampNeg)]; simp
/-- the comparisons of the law -/
theorem own_h1 (x : Int32) (hi lo : Int64) (h : own_P x = (0 : Int32)) : f12_0 (own_clr (own_P x) (own_xs hi lo)) = hi &&& (0 : Int64) := by
  have r := own_Pr x
  refine own_ghi _ _ _ _ r.1 r.2 fun b hb => ?_
  rw [h, own_b_l0, decide_eq_false]; exact Nat.not_lt_zero _
theorem own_h2 (x : Int32) (hi lo : Int64) (h : ¬ own_P x < (64 : Int32)) : f12_0 (own_clr (own_P x) (own_xs hi lo)) = hi &&& (-1 : Int64) := by
  have r := own_Pr x
  refine own_ghi _ _ _ _ r.1 r.2 fun b hb => ?_
  rw [own_b_lm1 _ hb, decide_eq_true]
  simp only [Int32.lt_iff_toInt_lt, Int32.toNatClampNeg, Int32.reduceToInt] at *; omega
theorem own_h3 (x : Int32) (hi lo : Int64) (h : own_P x < (64 : Int32)) (h0 : ¬ own_P x = (0 : Int32)) : f12_0 (own_clr (own_P x) (own_xs hi lo)) = hi &&& ((-1 : Int64) <<< (((64 : Int32) - own_P x) &&& 0x3f).toInt64) := by
  have r := own_Pr x
  refine own_ghi _ _ _ _ r.1 r.2 fun b hb => ?_
  simp only [Int32.lt_iff_toInt_lt, Int32.toNatClampNeg, Int32.reduceToInt, ← Int32.toInt_inj] at h h0 r
  exact own_lmk (own_P x) (64 : Int32) 64 rfl (Or.inl rfl) (by omega) (by omega) b hb
theorem own_l1 (x : Int32) (hi lo : Int64) (h : ¬ (64 : Int32) < own_P x) : f12_8 (own_clr (own_P x) (own_xs hi lo)) = lo &&& (0 : Int64) := by
  have r := own_Pr x
  refine own_glo _ _ _ _ r.1 r.2 fun b hb => ?_
  rw [own_b_l0, decide_eq_false]
  simp only [Int32.lt_iff_toInt_lt, Int32.toNatClampNeg, Int32.reduceToInt] at *; omega
theorem own_l2 (x : Int32) (hi lo : Int64) (h : (64 : Int32) < own_P x) : f12_8 (own_clr (own_P x) (own_xs hi lo)) = lo &&& ((-1 : Int64) <<< (((128 : Int32) - own_P x) &&& 0x3f).toInt64) := by
  have r := own_Pr x
  refine own_glo _ _ _ _ r.1 r.2 fun b hb => ?_
  simp only [Int32.lt_iff_toInt_lt, Int32.toNatClampNeg, Int32.reduceToInt] at h r
  exact own_lmk (own_P x) (128 : Int32) 128 rfl (Or.inr rfl) (by omega) (by omega) b hb
theorem own_y1 (x a : Int32) (h : own_P4 x = (0 : Int32)) : f10_0 (own_clr (own_P4 x) (own_ys a)) = a &&& (0 : Int32) := by
  have r := own_P4r x
  refine own_gyy _ _ _ r.1 r.2 fun b hb => ?_
  rw [h, own_b_0, decide_eq_false]; exact Nat.not_lt_zero _
theorem own_y2 (x a : Int32) (h0 : ¬ own_P4 x = (0 : Int32)) : f10_0 (own_clr (own_P4 x) (own_ys a)) = a &&& ((-1 : Int32) <<< (((32 : Int32) - own_P4 x) &&& 31)) := by
  have r := own_P4r x
  refine own_gyy _ _ _ r.1 r.2 fun b hb => ?_
  simp only [Int32.lt_iff_toInt_lt, Int32.toNatClampNeg, Int32.reduceToInt, ← Int32.toInt_inj] at h0 r
  exact own_imk (own_P4 x) (by omega) (by omega) b hb
theorem own_PB (x : Int32) (hi lo : Int64) : ¬ (((Int32.ofNat (own_xs hi lo).length) * (8 : Int32)) < own_P x) := by
  show ¬ (((Int32.ofNat 16) * (8 : Int32)) < own_P x)
  have r := own_Pr x
  have e : ((Int32.ofNat 16) * (8 : Int32)).toInt = 128 := by decide
  simp only [Int32.lt_iff_toInt_lt, Int32.toNatClampNeg, Int32.reduceToInt] at *; omega
theorem own_PB4 (x a : Int32) : ¬ (((Int32.ofNat (own_ys a).length) * (8 : Int32)) < own_P4 x) := by
  show ¬ (((Int32.ofNat 4) * (8 : Int32)) < own_P4 x)
  have r := own_P4r x
  have e : ((Int32.ofNat 4) * (8 : Int32)).toInt = 32 := by decide
  simp only [Int32.lt_iff_toInt_lt, Int32.toNatClampNeg, Int32.reduceToInt] at *; omega
theorem own_n64 {x : Int32} (h : x = (0 : Int32)) : ¬ ((64 : Int32) < x) := by rw [h]; decide
theorem own_n65 {x : Int32} (h : x < (64 : Int32)) : ¬ ((64 : Int32) < x) := by simp only [Int32.lt_iff_toInt_lt, Int32.reduceToInt] at *; omega
theorem own_l16 (p : Int32) (hi lo : Int64) : Int32.ofNat (own_clr p (own_xs hi lo)).length = (16 : Int32) := by rw [own_clrl]; rfl
theorem own_l4 (p a : Int32) : Int32.ofNat (own_clr p (own_ys a)).length = (4 : Int32) := by rw [own_clrl]; rfl
/-! body 0: com/example/veiled_alerts/veiledalerts/model/NetworkContainingPinLaw.law:(IIJJ)Z -/
theorem pn_0 : plainName "com/example/veiled_alerts/veiledalerts/model/NetworkContainingPinLaw" = true := by first | (simp [plainName, overriddenIn]; done) | decide +kernel
theorem pd_0_0 : parseMethodDescriptor "([BII)V" = some ⟨[(.array .byte), .int, .int], none⟩ := by decide +kernel
theorem pd_0_1 : parseMethodDescriptor "([B)V" = some ⟨[(.array .byte)], none⟩ := by decide +kernel
theorem pd_0_2 : parseMethodDescriptor "(Lcom/example/veiled_alerts/veiledalerts/model/IpAddress;I)Lcom/example/veiled_alerts/veiledalerts/model/Network;" = some ⟨[(.object "com/example/veiled_alerts/veiledalerts/model/IpAddress"), .int], some (.object "com/example/veiled_alerts/veiledalerts/model/Network")⟩ := by decide +kernel
theorem pd_0_3 : parseMethodDescriptor "(J)Lcom/example/veiled_alerts/veiledalerts/model/IpAddress;" = some ⟨[.long], some (.object "com/example/veiled_alerts/veiledalerts/model/IpAddress")⟩ := by decide +kernel
theorem pd_0_4 : parseMethodDescriptor "()[B" = some ⟨[], some (.array .byte)⟩ := by decide +kernel
theorem pd_0_5 : parseMethodDescriptor "()I" = some ⟨[], some .int⟩ := by decide +kernel
theorem pd_0_6 : parseMethodDescriptor "([BI)I" = some ⟨[(.array .byte), .int], some .int⟩ := by decide +kernel
theorem pd_0_7 : parseMethodDescriptor "([BIJ)V" = some ⟨[(.array .byte), .int, .long], none⟩ := by decide +kernel
theorem pd_0_8 : parseMethodDescriptor "([BI)J" = some ⟨[(.array .byte), .int], some .long⟩ := by decide +kernel
theorem ef_0 (m : MethodId) (x0 : Int32) (x1 : Int32) (x2 : Int64) (x3 : Int64) : entryFrame m #[(.int x0), (.int x1), (.long x2), (.long x3)] maxLocals = mkF m 0 #[.val (.int x0), .val (.int x1), .val (.long x2), .second, .val (.long x3), .second, .unset, .unset, .unset, .unset, .unset, .unset, .unset, .unset, .unset] [] := by first | (simp [entryFrame, mkF, argsToLocals, Value.category, maxLocals]; done) | rfl
def Q0 (Z : State) (p0 : Int32) (p1 : Int32) (q2 : Int64) (q3 : Int64) (h0 : Heap) (n0 : Nat) (v : Option Value) (h : Heap) (L : List Loc) : Prop := v = some (.int (1 : Int32)) ∧ Fr n0 L ∧ Keep h0 h []
set_option maxRecDepth 65536 in
set_option maxHeartbeats 40000000 in
theorem rm0 (l : Launch) (Z : State) (az : Array Value) (hw : ∀ d ∈ tables_1, d.before az Z = true) (ws : List Jvm.Cond) (p0 : Int32) (p1 : Int32) (q2 : Int64) (q3 : Int64) (h0 : Heap) (n0 : Nat) (Z0 : n0 ≤ h0.size) :
    OCtr l Z x code maxLocals ret ws room_1 #[(.int p0), (.int p1), (.long q2), (.long q3)] h0 (Q0 Z p0 p1 q2 q3 h0 n0) := by
  refine OCtr.of (plainFor_of_name pn_0) ?_
  intro p e s m below meth c s₁ X0 hx hlk hZ hown0 hnm hby hml0 hret e0
  have hown : s.vm.findClass "com/example/veiled_alerts/veiledalerts/model/NetworkContainingPinLaw" = some m.cls := hown0
  have hml : c.maxLocals = 15 := hml0
  have N0 := Fr.nil n0
  refine OGo.step (fun t k => castTop (ef_0 m p0 p1 q2 q3) k) ?_
  refine OGo.step (F' := s₁.setTop (mkF m 3 #[.val (.int p0), .val (.int p1), .val (.long q2), .second, .val (.long q3), .second, .unset, .unset, .unset, .unset, .unset, .unset, .unset, .unset, .unset] [(.int (p0 &&& (1 : Int32)))])) (fun t kt => ?_) ?_
  · show Steps p.tables e below (s₁.setTop (mkF m 0 #[.val (.int p0), .val (.int p1), .val (.long q2), .second, .val (.long q3), .second, .unset, .unset, .unset, .unset, .unset, .unset, .unset, .unset, .unset] [])) t
    refine XS.iloadN X0.here hx rfl (hb hby at_0) rfl ?_
    show Steps p.tables e below (s₁.setTop (mkF m 1 #[.val (.int p0), .val (.int p1), .val (.long q2), .second, .val (.long q3), .second, .unset, .unset, .unset, .unset, .unset, .unset, .unset, .unset, .unset] [(.int p0)])) t
    refine XS.iconst X0.here hx rfl (hb hby at_1) ?_
    show Steps p.tables e below (s₁.setTop (mkF m 2 #[.val (.int p0), .val (.int p1), .val (.long q2), .second, .val (.long q3), .second, .unset, .unset, .unset, .unset, .unset, .unset, .unset, .unset, .unset] [(.int (1 : Int32)), (.int p0)])) t
    refine XS.iand X0.here hx rfl (hb hby at_2) rfl ?_
    exact kt
  by_cases hc3 : (p0 &&& (1 : Int32)) = (0 : Int32)
  · refine OGo.step (F' := s₁.setTop (mkF m 10 #[.val (.int p0), .val (.int p1), .val (.long q2), .second, .val (.long q3), .second, .unset, .unset, .unset, .unset, .unset, .unset, .unset, .unset, .unset] [])) (fun t kt => ?_) ?_
    · show Steps p.tables e below (s₁.setTop (mkF m 3 #[.val (.int p0), .val (.int p1), .val (.long q2), .second, .val (.long q3), .second, .unset, .unset, .unset, .unset, .unset, .unset, .unset, .unset, .unset] [(.int (p0 &&& (1 : Int32)))])) t
      refine XS.ifYes X0.here hx rfl (pc0 := 3) (pc' := 10) rfl (hb hby at_3) rfl ((if0 _ _).trans (teq hc3).1) (by decide) (by decide) ?_
      exact kt
    refine OGo.step (F' := s₁.setTop (mkF m 226 #[.val (.int p0), .val (.int p1), .val (.long q2), .second, .val (.long q3), .second, .val (.int (0 : Int32)), .val (.int (own_P4 p1)), .val (.int (q3.toInt32)), .unset, .unset, .unset, .unset, .unset, .unset] [(.int (4 : Int32))])) (fun t kt => ?_) ?_
    · show Steps p.tables e below (s₁.setTop (mkF m 10 #[.val (.int p0), .val (.int p1), .val (.long q2), .second, .val (.long q3), .second, .unset, .unset, .unset, .unset, .unset, .unset, .unset, .unset, .unset] [])) t
      refine XS.iconst X0.here hx rfl (hb hby at_10) ?_
      show Steps p.tables e below (s₁.setTop (mkF m 11 #[.val (.int p0), .val (.int p1), .val (.long q2), .second, .val (.long q3), .second, .unset, .unset, .unset, .unset, .unset, .unset, .unset, .unset, .unset] [(.int (0 : Int32))])) t
      refine XS.istore X0.here hx rfl (hb hby at_11) rfl (l' := #[.val (.int p0), .val (.int p1), .val (.long q2), .second, .val (.long q3), .second, .val (.int (0 : Int32)), .unset, .unset, .unset, .unset, .unset, .unset, .unset, .unset]) rfl ?_
      show Steps p.tables e below (s₁.setTop (mkF m 13 #[.val (.int p0), .val (.int p1), .val (.long q2), .second, .val (.long q3), .second, .val (.int (0 : Int32)), .unset, .unset, .unset, .unset, .unset, .unset, .unset, .unset] [])) t
      refine XS.iload X0.here hx rfl (hb hby at_13) rfl ?_
      show Steps p.tables e below (s₁.setTop (mkF m 15 #[.val (.int p0), .val (.int p1), .val (.long q2), .second, .val (.long q3), .second, .val (.int (0 : Int32)), .unset, .unset, .unset, .unset, .unset, .unset, .unset, .unset] [(.int (0 : Int32))])) t
      refine XS.ifYes X0.here hx rfl (pc0 := 15) (pc' := 211) rfl (hb hby at_15) rfl ((if0 _ _).trans (teq (by decide : (0 : Int32) = (0 : Int32))).1) (by decide) (by decide) ?_
      show Steps p.tables e below (s₁.setTop (mkF m 211 #[.val (.int p0), .val (.int p1), .val (.long q2), .second, .val (.long q3), .second, .val (.int (0 : Int32)), .unset, .unset, .unset, .unset, .unset, .unset, .unset, .unset] [])) t
      refine XS.iloadN X0.here hx rfl (hb hby at_211) rfl ?_
      show Steps p.tables e below (s₁.setTop (mkF m 212 #[.val (.int p0), .val (.int p1), .val (.long q2), .second, .val (.long q3), .second, .val (.int (0 : Int32)), .unset, .unset, .unset, .unset, .unset, .unset, .unset, .unset] [(.int p1)])) t
      refine X0.ldcInt hx hown (mvT hZ (own_wd hw 0 rfl)) (g := (mkF m 212 #[.val (.int p0), .val (.int p1), .val (.long q2), .second, .val (.long q3), .second, .val (.int (0 : Int32)), .unset, .unset, .unset, .unset, .unset, .unset, .unset, .unset] [(.int p1)])) rfl (hb hby at_212) _ ?_
      show Steps p.tables e below (s₁.setTop (mkF m 214 #[.val (.int p0), .val (.int p1), .val (.long q2), .second, .val (.long q3), .second, .val (.int (0 : Int32)), .unset, .unset, .unset, .unset, .unset, .unset, .unset, .unset] [(.int (2147483647 : Int32)), (.int p1)])) t
      refine XS.iand X0.here hx rfl (hb hby at_214) rfl ?_
      show Steps p.tables e below (s₁.setTop (mkF m 215 #[.val (.int p0), .val (.int p1), .val (.long q2), .second, .val (.long q3), .second, .val (.int (0 : Int32)), .unset, .unset, .unset, .unset, .unset, .unset, .unset, .unset] [(.int (p1 &&& (2147483647 : Int32)))])) t
      refine XS.bipush X0.here hx rfl (hb hby at_215) ?_
      show Steps p.tables e below (s₁.setTop (mkF m 217 #[.val (.int p0), .val (.int p1), .val (.long q2), .second, .val (.long q3), .second, .val (.int (0 : Int32)), .unset, .unset, .unset, .unset, .unset, .unset, .unset, .unset] [(.int (33 : Int32)), (.int (p1 &&& (2147483647 : Int32)))])) t
      refine Jvm.RoadKit.iremM (g := (mkF m 217 #[.val (.int p0), .val (.int p1), .val (.long q2), .second, .val (.long q3), .second, .val (.int (0 : Int32)), .unset, .unset, .unset, .unset, .unset, .unset, .unset, .unset] [(.int (33 : Int32)), (.int (p1 &&& (2147483647 : Int32)))])) X0 hx rfl (hb hby at_217) rfl (by decide) ?_
      show Steps p.tables e below (s₁.setTop (mkF m 218 #[.val (.int p0), .val (.int p1), .val (.long q2), .second, .val (.long q3), .second, .val (.int (0 : Int32)), .unset, .unset, .unset, .unset, .unset, .unset, .unset, .unset] [(.int (own_P4 p1))])) t
      refine XS.istore X0.here hx rfl (hb hby at_218) rfl (l' := #[.val (.int p0), .val (.int p1), .val (.long q2), .second, .val (.long q3), .second, .val (.int (0 : Int32)), .val (.int (own_P4 p1)), .unset, .unset, .unset, .unset, .unset, .unset, .unset]) rfl ?_
      show Steps p.tables e below (s₁.setTop (mkF m 220 #[.val (.int p0), .val (.int p1), .val (.long q2), .second, .val (.long q3), .second, .val (.int (0 : Int32)), .val (.int (own_P4 p1)), .unset, .unset, .unset, .unset, .unset, .unset, .unset] [])) t
      refine XS.lload X0.here hx rfl (hb hby at_220) rfl ?_
      show Steps p.tables e below (s₁.setTop (mkF m 222 #[.val (.int p0), .val (.int p1), .val (.long q2), .second, .val (.long q3), .second, .val (.int (0 : Int32)), .val (.int (own_P4 p1)), .unset, .unset, .unset, .unset, .unset, .unset, .unset] [(.long q3)])) t
      refine XS.l2i X0.here hx rfl (hb hby at_222) rfl ?_
      show Steps p.tables e below (s₁.setTop (mkF m 223 #[.val (.int p0), .val (.int p1), .val (.long q2), .second, .val (.long q3), .second, .val (.int (0 : Int32)), .val (.int (own_P4 p1)), .unset, .unset, .unset, .unset, .unset, .unset, .unset] [(.int (q3.toInt32))])) t
      refine XS.istore X0.here hx rfl (hb hby at_223) rfl (l' := #[.val (.int p0), .val (.int p1), .val (.long q2), .second, .val (.long q3), .second, .val (.int (0 : Int32)), .val (.int (own_P4 p1)), .val (.int (q3.toInt32)), .unset, .unset, .unset, .unset, .unset, .unset]) rfl ?_
      show Steps p.tables e below (s₁.setTop (mkF m 225 #[.val (.int p0), .val (.int p1), .val (.long q2), .second, .val (.long q3), .second, .val (.int (0 : Int32)), .val (.int (own_P4 p1)), .val (.int (q3.toInt32)), .unset, .unset, .unset, .unset, .unset, .unset] [])) t
      refine XS.iconst X0.here hx rfl (hb hby at_225) ?_
      exact kt
    obtain ⟨T1, h1, k1, X1, e1, E1, A1, P1, st1⟩ := newPE X0 hx hZ (own_wd hw 1 rfl) e0 (g := (mkF m 226 #[.val (.int p0), .val (.int p1), .val (.long q2), .second, .val (.long q3), .second, .val (.int (0 : Int32)), .val (.int (own_P4 p1)), .val (.int (q3.toInt32)), .unset, .unset, .unset, .unset, .unset, .unset] [(.int (4 : Int32))])) rfl (hb hby at_226) rfl (by decide) (cap := 4) (by decide) (by decide) (by decide) (by decide) (ad := "[B") (by decide)
    obtain ⟨b1, g1⟩ : ∃ z, z = h0.size := ⟨_, rfl⟩
    rw [← g1] at A1 P1 st1
    have sz_b1 : h0.size ≤ b1 := Nat.le_trans (Keep.refl h0 []).1 (Nat.le_of_eq g1.symm)
    have gn_b1 : n0 ≤ b1 := Nat.le_trans Z0 sz_b1
    have KC1 : Keep h0 h1 [] := (Keep.refl h0 []).ext E1
    have O1 : OBs Z h1 b1 (List.replicate 4 (0 : Int32)) := ⟨k1, (Arv.new A1 (by decide)).pad (pad_rep [] (.int (0 : Int32)) 4)⟩
    refine OGo.step st1 ?_
    show OGo _ _ _ _ _ _ _ (T1.setTop (mkF m 228 #[.val (.int p0), .val (.int p1), .val (.long q2), .second, .val (.long q3), .second, .val (.int (0 : Int32)), .val (.int (own_P4 p1)), .val (.int (q3.toInt32)), .unset, .unset, .unset, .unset, .unset, .unset] [(.ref b1)]))
    refine OGo.step (F' := T1.setTop (mkF m 235 #[.val (.int p0), .val (.int p1), .val (.long q2), .second, .val (.long q3), .second, .val (.int (0 : Int32)), .val (.int (own_P4 p1)), .val (.int (q3.toInt32)), .val (.ref b1), .unset, .unset, .unset, .unset, .unset] [(.int (q3.toInt32)), (.int (0 : Int32)), (.ref b1)])) (fun t kt => ?_) ?_
    · show Steps p.tables e below (T1.setTop (mkF m 228 #[.val (.int p0), .val (.int p1), .val (.long q2), .second, .val (.long q3), .second, .val (.int (0 : Int32)), .val (.int (own_P4 p1)), .val (.int (q3.toInt32)), .unset, .unset, .unset, .unset, .unset, .unset] [(.ref b1)])) t
      refine XS.astore X1.here hx rfl (hb hby at_228) rfl rfl (l' := #[.val (.int p0), .val (.int p1), .val (.long q2), .second, .val (.long q3), .second, .val (.int (0 : Int32)), .val (.int (own_P4 p1)), .val (.int (q3.toInt32)), .val (.ref b1), .unset, .unset, .unset, .unset, .unset]) rfl ?_
      show Steps p.tables e below (T1.setTop (mkF m 230 #[.val (.int p0), .val (.int p1), .val (.long q2), .second, .val (.long q3), .second, .val (.int (0 : Int32)), .val (.int (own_P4 p1)), .val (.int (q3.toInt32)), .val (.ref b1), .unset, .unset, .unset, .unset, .unset] [])) t
      refine XS.aload X1.here hx rfl (hb hby at_230) rfl rfl ?_
      show Steps p.tables e below (T1.setTop (mkF m 232 #[.val (.int p0), .val (.int p1), .val (.long q2), .second, .val (.long q3), .second, .val (.int (0 : Int32)), .val (.int (own_P4 p1)), .val (.int (q3.toInt32)), .val (.ref b1), .unset, .unset, .unset, .unset, .unset] [(.ref b1)])) t
      refine XS.iconst X1.here hx rfl (hb hby at_232) ?_
      show Steps p.tables e below (T1.setTop (mkF m 233 #[.val (.int p0), .val (.int p1), .val (.long q2), .second, .val (.long q3), .second, .val (.int (0 : Int32)), .val (.int (own_P4 p1)), .val (.int (q3.toInt32)), .val (.ref b1), .unset, .unset, .unset, .unset, .unset] [(.int (0 : Int32)), (.ref b1)])) t
      refine XS.iload X1.here hx rfl (hb hby at_233) rfl ?_
      exact kt
    refine OGo.callS X1 hx hZ (y := (⟨"com/example/veiled_alerts/veiledalerts/model/NetworkContainingPinLaw", "put4", "([BII)V"⟩ : MethodName)) hown (own_wd hw 2 rfl) (own_wd hw 3 rfl) (own_wd hw 4 rfl) (own_wd hw 5 rfl) (by decide) (rm1_0 l Z az hw [] b1 (q3.toInt32) (List.replicate 4 (0 : Int32)) h1 n0 (Nat.le_trans Z0 KC1.1) P1 O1 (by simp only [List.length_set, List.length_replicate]) gn_b1) (W := 0) (by decide) (by decide) (g := (mkF m 235 #[.val (.int p0), .val (.int p1), .val (.long q2), .second, .val (.long q3), .second, .val (.int (0 : Int32)), .val (.int (own_P4 p1)), .val (.int (q3.toInt32)), .val (.ref b1), .unset, .unset, .unset, .unset, .unset] [(.int (q3.toInt32)), (.int (0 : Int32)), (.ref b1)])) rfl (by rw [hml]; rfl) (argsL := [(.ref b1), (.int (0 : Int32)), (.int (q3.toInt32))]) (rest := []) (lenOf pd_0_0 rfl) rfl (by show 2 * 0 + _ ≤ _; exact Nat.le_of_eq rfl) (hb hby at_235) rfl e1 (by decide) (by decide) ?_
    rintro _ T2 L2 X2 ⟨rfl, Nq2, K2, P2_0, P2_1⟩
    have KC2 : Keep h0 T2.heap [] := KC1.trans K2 (allS (Or.inr sz_b1) all0)
    have N2 := Fr.app N0 Nq2
    show OGo _ _ _ _ _ _ _ (T2.setTop (mkF m 238 #[.val (.int p0), .val (.int p1), .val (.long q2), .second, .val (.long q3), .second, .val (.int (0 : Int32)), .val (.int (own_P4 p1)), .val (.int (q3.toInt32)), .val (.ref b1), .unset, .unset, .unset, .unset, .unset] []))
    have O3 : OBs Z T2.heap b1 (own_ys (q3.toInt32)) := P2_1
    obtain ⟨T4, h4, X4, e4, E4, A4, D4, -, st4⟩ := newO X2 hx hZ hown (own_wd hw 6 rfl) (own_wd hw 7 rfl) (own_wd hw 8 rfl) rfl (g := (mkF m 238 #[.val (.int p0), .val (.int p1), .val (.long q2), .second, .val (.long q3), .second, .val (.int (0 : Int32)), .val (.int (own_P4 p1)), .val (.int (q3.toInt32)), .val (.ref b1), .unset, .unset, .unset, .unset, .unset] [])) rfl (hb hby at_238) (by decide) (by decide)
    obtain ⟨b4, g4⟩ : ∃ z, z = T2.heap.size := ⟨_, rfl⟩
    rw [← g4] at A4 D4 st4
    have sz_b4 : h0.size ≤ b4 := Nat.le_trans KC2.1 (Nat.le_of_eq g4.symm)
    have gn_b4 : n0 ≤ b4 := Nat.le_trans Z0 sz_b4
    have KC4 : Keep h0 h4 [] := KC2.ext E4
    have F4_bytes : Fld Z h4 b4 "com/example/veiled_alerts/veiledalerts/model/IpAddress" "bytes" "[B" .null := D4 (Or.inr (own_wd hw 16 rfl)) (ty := (.array .byte)) (by decide)
    refine OGo.step st4 ?_
    show OGo _ _ _ _ _ _ _ (T4.setTop (mkF m 241 #[.val (.int p0), .val (.int p1), .val (.long q2), .second, .val (.long q3), .second, .val (.int (0 : Int32)), .val (.int (own_P4 p1)), .val (.int (q3.toInt32)), .val (.ref b1), .unset, .unset, .unset, .unset, .unset] [(.ref b4)]))
    refine OGo.step (F' := T4.setTop (mkF m 244 #[.val (.int p0), .val (.int p1), .val (.long q2), .second, .val (.long q3), .second, .val (.int (0 : Int32)), .val (.int (own_P4 p1)), .val (.int (q3.toInt32)), .val (.ref b1), .unset, .unset, .unset, .unset, .unset] [(.ref b1), (.ref b4), (.ref b4)])) (fun t kt => ?_) ?_
    · show Steps p.tables e below (T4.setTop (mkF m 241 #[.val (.int p0), .val (.int p1), .val (.long q2), .second, .val (.long q3), .second, .val (.int (0 : Int32)), .val (.int (own_P4 p1)), .val (.int (q3.toInt32)), .val (.ref b1), .unset, .unset, .unset, .unset, .unset] [(.ref b4)])) t
      refine XS.dup X4.here hx rfl (hb hby at_241) rfl rfl ?_
      show Steps p.tables e below (T4.setTop (mkF m 242 #[.val (.int p0), .val (.int p1), .val (.long q2), .second, .val (.long q3), .second, .val (.int (0 : Int32)), .val (.int (own_P4 p1)), .val (.int (q3.toInt32)), .val (.ref b1), .unset, .unset, .unset, .unset, .unset] [(.ref b4), (.ref b4)])) t
      refine XS.aload X4.here hx rfl (hb hby at_242) rfl rfl ?_
      exact kt
    refine OGo.callC X4 hx hZ (y := (⟨"com/example/veiled_alerts/veiledalerts/model/IpAddress", "<init>", "([B)V"⟩ : MethodName)) rfl hown (own_wd hw 9 rfl) (own_wd hw 10 rfl) (own_wd hw 8 rfl) (own_wd hw 11 rfl) (by decide) (rm2 l Z az hw [] b4 b1 .null h4 n0 (Nat.le_trans Z0 KC4.1) A4 F4_bytes gn_b4) (W := 1) (by decide) (by decide) (b := b4) (g := (mkF m 244 #[.val (.int p0), .val (.int p1), .val (.long q2), .second, .val (.long q3), .second, .val (.int (0 : Int32)), .val (.int (own_P4 p1)), .val (.int (q3.toInt32)), .val (.ref b1), .unset, .unset, .unset, .unset, .unset] [(.ref b1), (.ref b4), (.ref b4)])) rfl (by rw [hml]; rfl) (argsL := [(.ref b1)]) (rest := [(.ref b4)]) (lenOf pd_0_1 rfl) rfl (by show 2 * 0 + _ ≤ _; exact Nat.le_of_eq rfl) (hb hby at_244) rfl e4 (by decide) (by decide) ?_
    rintro _ T5 L5 X5 ⟨rfl, Nq5, K5, P5_0, P5_1⟩
    have KC5 : Keep h0 T5.heap [] := KC4.trans K5 (allS (Or.inr sz_b4) all0)
    have N5 := Fr.app N2 Nq5
    show OGo _ _ _ _ _ _ _ (T5.setTop (mkF m 247 #[.val (.int p0), .val (.int p1), .val (.long q2), .second, .val (.long q3), .second, .val (.int (0 : Int32)), .val (.int (own_P4 p1)), .val (.int (q3.toInt32)), .val (.ref b1), .unset, .unset, .unset, .unset, .unset] [(.ref b4)]))
    refine OGo.step (F' := T5.setTop (mkF m 249 #[.val (.int p0), .val (.int p1), .val (.long q2), .second, .val (.long q3), .second, .val (.int (0 : Int32)), .val (.int (own_P4 p1)), .val (.int (q3.toInt32)), .val (.ref b1), .unset, .unset, .unset, .unset, .unset] [(.int (own_P4 p1)), (.ref b4)])) (fun t kt => ?_) ?_
    · show Steps p.tables e below (T5.setTop (mkF m 247 #[.val (.int p0), .val (.int p1), .val (.long q2), .second, .val (.long q3), .second, .val (.int (0 : Int32)), .val (.int (own_P4 p1)), .val (.int (q3.toInt32)), .val (.ref b1), .unset, .unset, .unset, .unset, .unset] [(.ref b4)])) t
      refine XS.iload X5.here hx rfl (hb hby at_247) rfl ?_
      exact kt
    refine OGo.callS X5 hx hZ (y := (⟨"com/example/veiled_alerts/veiledalerts/model/Network", "containing", "(Lcom/example/veiled_alerts/veiledalerts/model/IpAddress;I)Lcom/example/veiled_alerts/veiledalerts/model/Network;"⟩ : MethodName)) hown (own_wd hw 17 rfl) (own_wd hw 18 rfl) (own_wd hw 19 rfl) (own_wd hw 20 rfl) (by decide) (rm4 l Z az hw [] b4 (own_P4 p1) b1 (own_ys (q3.toInt32)) T5.heap n0 (Nat.le_trans Z0 KC5.1) P5_0 P5_1 ((P2_0.ext E4).keep K5) ((O3.ext E4).keep K5 (ninS (Nat.ne_of_lt (Nat.lt_of_lt_of_le O3.lt (Nat.le_of_eq g4.symm))) nin0)) (Or.inl rfl) (own_P4r _).1 (own_PB4 _ _)) (W := 0) (by decide) (by decide) (g := (mkF m 249 #[.val (.int p0), .val (.int p1), .val (.long q2), .second, .val (.long q3), .second, .val (.int (0 : Int32)), .val (.int (own_P4 p1)), .val (.int (q3.toInt32)), .val (.ref b1), .unset, .unset, .unset, .unset, .unset] [(.int (own_P4 p1)), (.ref b4)])) rfl (by rw [hml]; rfl) (argsL := [(.ref b4), (.int (own_P4 p1))]) (rest := []) (lenOf pd_0_2 rfl) rfl (by show 2 * 0 + _ ≤ _; exact Nat.le_of_eq rfl) (hb hby at_249) rfl rfl (by decide) (by decide) ?_
    rintro _ T6 L6 X6 ⟨b6_r, b6_ip, b6_t, rfl, Nq6, K6, sz_b6_r, sz_b6_ip, sz_b6_t, P6_0, P6_1, P6_2, P6_3, P6_4, P6_5, P6_6⟩
    have KC6 : Keep h0 T6.heap [] := KC5.trans K6 all0
    have szo_b6_r := sz_b6_r
    replace sz_b6_r : h0.size ≤ b6_r := Nat.le_trans KC5.1 sz_b6_r
    have gn_b6_r : n0 ≤ b6_r := Nat.le_trans Z0 sz_b6_r
    have szo_b6_ip := sz_b6_ip
    replace sz_b6_ip : h0.size ≤ b6_ip := Nat.le_trans KC5.1 sz_b6_ip
    have gn_b6_ip : n0 ≤ b6_ip := Nat.le_trans Z0 sz_b6_ip
    have szo_b6_t := sz_b6_t
    replace sz_b6_t : h0.size ≤ b6_t := Nat.le_trans KC5.1 sz_b6_t
    have gn_b6_t : n0 ≤ b6_t := Nat.le_trans Z0 sz_b6_t
    have N6 := Fr.app N5 Nq6
    show OGo _ _ _ _ _ _ _ (T6.setTop (mkF m 252 #[.val (.int p0), .val (.int p1), .val (.long q2), .second, .val (.long q3), .second, .val (.int (0 : Int32)), .val (.int (own_P4 p1)), .val (.int (q3.toInt32)), .val (.ref b1), .unset, .unset, .unset, .unset, .unset] [(.ref b6_r)]))
    refine OGo.step (F' := T6.setTop (mkF m 257 #[.val (.int p0), .val (.int p1), .val (.long q2), .second, .val (.long q3), .second, .val (.int (0 : Int32)), .val (.int (own_P4 p1)), .val (.int (q3.toInt32)), .val (.ref b1), .val (.ref b6_r), .unset, .unset, .unset, .unset] [(.long (0 : Int64)), (.ref b6_r)])) (fun t kt => ?_) ?_
    · show Steps p.tables e below (T6.setTop (mkF m 252 #[.val (.int p0), .val (.int p1), .val (.long q2), .second, .val (.long q3), .second, .val (.int (0 : Int32)), .val (.int (own_P4 p1)), .val (.int (q3.toInt32)), .val (.ref b1), .unset, .unset, .unset, .unset, .unset] [(.ref b6_r)])) t
      refine XS.astore X6.here hx rfl (hb hby at_252) rfl rfl (l' := #[.val (.int p0), .val (.int p1), .val (.long q2), .second, .val (.long q3), .second, .val (.int (0 : Int32)), .val (.int (own_P4 p1)), .val (.int (q3.toInt32)), .val (.ref b1), .val (.ref b6_r), .unset, .unset, .unset, .unset]) rfl ?_
      show Steps p.tables e below (T6.setTop (mkF m 254 #[.val (.int p0), .val (.int p1), .val (.long q2), .second, .val (.long q3), .second, .val (.int (0 : Int32)), .val (.int (own_P4 p1)), .val (.int (q3.toInt32)), .val (.ref b1), .val (.ref b6_r), .unset, .unset, .unset, .unset] [])) t
      refine XS.aload X6.here hx rfl (hb hby at_254) rfl rfl ?_
      show Steps p.tables e below (T6.setTop (mkF m 256 #[.val (.int p0), .val (.int p1), .val (.long q2), .second, .val (.long q3), .second, .val (.int (0 : Int32)), .val (.int (own_P4 p1)), .val (.int (q3.toInt32)), .val (.ref b1), .val (.ref b6_r), .unset, .unset, .unset, .unset] [(.ref b6_r)])) t
      refine XS.lconst X6.here hx rfl (hb hby at_256) ?_
      exact kt
    refine OGo.callV X6 hx hZ (y := (⟨"com/example/veiled_alerts/veiledalerts/model/Network", "address", "(J)Lcom/example/veiled_alerts/veiledalerts/model/IpAddress;"⟩ : MethodName)) (z := (⟨"com/example/veiled_alerts/veiledalerts/model/Network", "address", "(J)Lcom/example/veiled_alerts/veiledalerts/model/IpAddress;"⟩ : MethodName)) hown (own_wd hw 47 rfl) (own_wd hw 48 rfl) (notFace_of_selects (args := #[]) (mvT hZ (own_wd hw 50 rfl))) (own_wd hw 50 rfl) (own_wd hw 49 rfl) (own_wd hw 19 rfl) (own_wd hw 51 rfl) (by decide) (rm7 l Z az hw [] b6_r b6_ip b6_t (own_clr (own_P4 p1) (own_ys (q3.toInt32))) (own_P4 p1) T6.heap n0 (Nat.le_trans Z0 KC6.1) P6_0 P6_1 P6_3 P6_4 P6_5 P6_6 (Or.inl (own_clrl _ _)) P6_2) (W := 0) (by decide) (by decide) P6_0 (g := (mkF m 257 #[.val (.int p0), .val (.int p1), .val (.long q2), .second, .val (.long q3), .second, .val (.int (0 : Int32)), .val (.int (own_P4 p1)), .val (.int (q3.toInt32)), .val (.ref b1), .val (.ref b6_r), .unset, .unset, .unset, .unset] [(.long (0 : Int64)), (.ref b6_r)])) rfl (by rw [hml]; rfl) (argsL := [(.long (0 : Int64))]) (rest := []) (lenOf pd_0_3 rfl) rfl (by show 2 * 0 + _ ≤ _; exact Nat.le_of_eq rfl) (hb hby at_257) rfl rfl (by decide) (by decide) ?_
    rintro _ T7 L7 X7 ⟨b7_r, b7_t, rfl, Nq7, K7, sz_b7_r, sz_b7_t, P7_0, P7_1, P7_2, P7_3⟩
    have KC7 : Keep h0 T7.heap [] := KC6.trans K7 all0
    have szo_b7_r := sz_b7_r
    replace sz_b7_r : h0.size ≤ b7_r := Nat.le_trans KC6.1 sz_b7_r
    have gn_b7_r : n0 ≤ b7_r := Nat.le_trans Z0 sz_b7_r
    have szo_b7_t := sz_b7_t
    replace sz_b7_t : h0.size ≤ b7_t := Nat.le_trans KC6.1 sz_b7_t
    have gn_b7_t : n0 ≤ b7_t := Nat.le_trans Z0 sz_b7_t
    have N7 := Fr.app N6 Nq7
    show OGo _ _ _ _ _ _ _ (T7.setTop (mkF m 260 #[.val (.int p0), .val (.int p1), .val (.long q2), .second, .val (.long q3), .second, .val (.int (0 : Int32)), .val (.int (own_P4 p1)), .val (.int (q3.toInt32)), .val (.ref b1), .val (.ref b6_r), .unset, .unset, .unset, .unset] [(.ref b7_r)]))
    refine OGo.callV X7 hx hZ (y := (⟨"com/example/veiled_alerts/veiledalerts/model/IpAddress", "bytes", "()[B"⟩ : MethodName)) (z := (⟨"com/example/veiled_alerts/veiledalerts/model/IpAddress", "bytes", "()[B"⟩ : MethodName)) hown (own_wd hw 57 rfl) (own_wd hw 22 rfl) (notFace_of_selects (args := #[]) (mvT hZ (own_wd hw 24 rfl))) (own_wd hw 24 rfl) (own_wd hw 23 rfl) (own_wd hw 8 rfl) (own_wd hw 25 rfl) (by decide) (rm5 l Z az hw [] b7_r b7_t T7.heap n0 (Nat.le_trans Z0 KC7.1) P7_1) (W := 0) (by decide) (by decide) P7_0 (g := (mkF m 260 #[.val (.int p0), .val (.int p1), .val (.long q2), .second, .val (.long q3), .second, .val (.int (0 : Int32)), .val (.int (own_P4 p1)), .val (.int (q3.toInt32)), .val (.ref b1), .val (.ref b6_r), .unset, .unset, .unset, .unset] [(.ref b7_r)])) rfl (by rw [hml]; rfl) (argsL := []) (rest := []) (lenOf pd_0_4 rfl) rfl (by show 2 * 0 + _ ≤ _; exact Nat.le_of_eq rfl) (hb hby at_260) rfl rfl (by decide) (by decide) ?_
    rintro _ T8 L8 X8 ⟨hv8, Nq8, e8⟩
    have N8 := Fr.app N7 Nq8
    rw [show (f5 b7_t) = b7_t from rfl] at hv8
    subst hv8
    show OGo _ _ _ _ _ _ _ (T8.setTop (mkF m 263 #[.val (.int p0), .val (.int p1), .val (.long q2), .second, .val (.long q3), .second, .val (.int (0 : Int32)), .val (.int (own_P4 p1)), .val (.int (q3.toInt32)), .val (.ref b1), .val (.ref b6_r), .unset, .unset, .unset, .unset] [(.ref b7_t)]))
    refine OGo.step (F' := T8.setTop (mkF m 267 #[.val (.int p0), .val (.int p1), .val (.long q2), .second, .val (.long q3), .second, .val (.int (0 : Int32)), .val (.int (own_P4 p1)), .val (.int (q3.toInt32)), .val (.ref b1), .val (.ref b6_r), .val (.ref b7_t), .unset, .unset, .unset] [(.int (own_P4 p1))])) (fun t kt => ?_) ?_
    · show Steps p.tables e below (T8.setTop (mkF m 263 #[.val (.int p0), .val (.int p1), .val (.long q2), .second, .val (.long q3), .second, .val (.int (0 : Int32)), .val (.int (own_P4 p1)), .val (.int (q3.toInt32)), .val (.ref b1), .val (.ref b6_r), .unset, .unset, .unset, .unset] [(.ref b7_t)])) t
      refine XS.astore X8.here hx rfl (hb hby at_263) rfl rfl (l' := #[.val (.int p0), .val (.int p1), .val (.long q2), .second, .val (.long q3), .second, .val (.int (0 : Int32)), .val (.int (own_P4 p1)), .val (.int (q3.toInt32)), .val (.ref b1), .val (.ref b6_r), .val (.ref b7_t), .unset, .unset, .unset]) rfl ?_
      show Steps p.tables e below (T8.setTop (mkF m 265 #[.val (.int p0), .val (.int p1), .val (.long q2), .second, .val (.long q3), .second, .val (.int (0 : Int32)), .val (.int (own_P4 p1)), .val (.int (q3.toInt32)), .val (.ref b1), .val (.ref b6_r), .val (.ref b7_t), .unset, .unset, .unset] [])) t
      refine XS.iload X8.here hx rfl (hb hby at_265) rfl ?_
      exact kt
    by_cases hc267 : (own_P4 p1) = (0 : Int32)
    · refine OGo.step (F' := T8.setTop (mkF m 270 #[.val (.int p0), .val (.int p1), .val (.long q2), .second, .val (.long q3), .second, .val (.int (0 : Int32)), .val (.int (own_P4 p1)), .val (.int (q3.toInt32)), .val (.ref b1), .val (.ref b6_r), .val (.ref b7_t), .unset, .unset, .unset] [])) (fun t kt => ?_) ?_
      · show Steps p.tables e below (T8.setTop (mkF m 267 #[.val (.int p0), .val (.int p1), .val (.long q2), .second, .val (.long q3), .second, .val (.int (0 : Int32)), .val (.int (own_P4 p1)), .val (.int (q3.toInt32)), .val (.ref b1), .val (.ref b6_r), .val (.ref b7_t), .unset, .unset, .unset] [(.int (own_P4 p1))])) t
        refine XS.ifNo X8.here hx rfl (hb hby at_267) rfl ((if0 _ _).trans (teq hc267).2) ?_
        exact kt
      refine OGo.step (F' := T8.setTop (mkF m 285 #[.val (.int p0), .val (.int p1), .val (.long q2), .second, .val (.long q3), .second, .val (.int (0 : Int32)), .val (.int (own_P4 p1)), .val (.int (q3.toInt32)), .val (.ref b1), .val (.ref b6_r), .val (.ref b7_t), .val (.int (0 : Int32)), .unset, .unset] [(.ref b6_r)])) (fun t kt => ?_) ?_
      · show Steps p.tables e below (T8.setTop (mkF m 270 #[.val (.int p0), .val (.int p1), .val (.long q2), .second, .val (.long q3), .second, .val (.int (0 : Int32)), .val (.int (own_P4 p1)), .val (.int (q3.toInt32)), .val (.ref b1), .val (.ref b6_r), .val (.ref b7_t), .unset, .unset, .unset] [])) t
        refine XS.iconst X8.here hx rfl (hb hby at_270) ?_
        show Steps p.tables e below (T8.setTop (mkF m 271 #[.val (.int p0), .val (.int p1), .val (.long q2), .second, .val (.long q3), .second, .val (.int (0 : Int32)), .val (.int (own_P4 p1)), .val (.int (q3.toInt32)), .val (.ref b1), .val (.ref b6_r), .val (.ref b7_t), .unset, .unset, .unset] [(.int (0 : Int32))])) t
        refine XS.goto X8.here hx rfl (pc0 := 271) (pc' := 281) rfl (hb hby at_271) (by decide) (by decide) ?_
        show Steps p.tables e below (T8.setTop (mkF m 281 #[.val (.int p0), .val (.int p1), .val (.long q2), .second, .val (.long q3), .second, .val (.int (0 : Int32)), .val (.int (own_P4 p1)), .val (.int (q3.toInt32)), .val (.ref b1), .val (.ref b6_r), .val (.ref b7_t), .unset, .unset, .unset] [(.int (0 : Int32))])) t
        refine XS.istore X8.here hx rfl (hb hby at_281) rfl (l' := #[.val (.int p0), .val (.int p1), .val (.long q2), .second, .val (.long q3), .second, .val (.int (0 : Int32)), .val (.int (own_P4 p1)), .val (.int (q3.toInt32)), .val (.ref b1), .val (.ref b6_r), .val (.ref b7_t), .val (.int (0 : Int32)), .unset, .unset]) rfl ?_
        show Steps p.tables e below (T8.setTop (mkF m 283 #[.val (.int p0), .val (.int p1), .val (.long q2), .second, .val (.long q3), .second, .val (.int (0 : Int32)), .val (.int (own_P4 p1)), .val (.int (q3.toInt32)), .val (.ref b1), .val (.ref b6_r), .val (.ref b7_t), .val (.int (0 : Int32)), .unset, .unset] [])) t
        refine XS.aload X8.here hx rfl (hb hby at_283) rfl rfl ?_
        exact kt
      refine OGo.callV X8 hx hZ (y := (⟨"com/example/veiled_alerts/veiledalerts/model/Network", "prefixLength", "()I"⟩ : MethodName)) (z := (⟨"com/example/veiled_alerts/veiledalerts/model/Network", "prefixLength", "()I"⟩ : MethodName)) hown (own_wd hw 58 rfl) (own_wd hw 59 rfl) (notFace_of_selects (args := #[]) (mvT hZ (own_wd hw 61 rfl))) (own_wd hw 61 rfl) (own_wd hw 60 rfl) (own_wd hw 19 rfl) (own_wd hw 62 rfl) (by decide) (rm9 l Z az hw [] b6_r (own_P4 p1) T7.heap n0 (Nat.le_trans Z0 KC7.1) (P6_2.keep K7 nin0)) (W := 0) (by decide) (by decide) (P6_0.keep K7) (g := (mkF m 285 #[.val (.int p0), .val (.int p1), .val (.long q2), .second, .val (.long q3), .second, .val (.int (0 : Int32)), .val (.int (own_P4 p1)), .val (.int (q3.toInt32)), .val (.ref b1), .val (.ref b6_r), .val (.ref b7_t), .val (.int (0 : Int32)), .unset, .unset] [(.ref b6_r)])) rfl (by rw [hml]; rfl) (argsL := []) (rest := []) (lenOf pd_0_5 rfl) rfl (by show 2 * 0 + _ ≤ _; exact Nat.le_of_eq rfl) (hb hby at_285) rfl e8 (by decide) (by decide) ?_
      rintro _ T9 L9 X9 ⟨hv9, Nq9, e9⟩
      have N9 := Fr.app N8 Nq9
      rw [show (f9 (own_P4 p1)) = (own_P4 p1) from rfl] at hv9
      subst hv9
      show OGo _ _ _ _ _ _ _ (T9.setTop (mkF m 288 #[.val (.int p0), .val (.int p1), .val (.long q2), .second, .val (.long q3), .second, .val (.int (0 : Int32)), .val (.int (own_P4 p1)), .val (.int (q3.toInt32)), .val (.ref b1), .val (.ref b6_r), .val (.ref b7_t), .val (.int (0 : Int32)), .unset, .unset] [(.int (own_P4 p1))]))
      refine OGo.step (F' := T9.setTop (mkF m 295 #[.val (.int p0), .val (.int p1), .val (.long q2), .second, .val (.long q3), .second, .val (.int (0 : Int32)), .val (.int (own_P4 p1)), .val (.int (q3.toInt32)), .val (.ref b1), .val (.ref b6_r), .val (.ref b7_t), .val (.int (0 : Int32)), .unset, .unset] [(.ref b7_t)])) (fun t kt => ?_) ?_
      · show Steps p.tables e below (T9.setTop (mkF m 288 #[.val (.int p0), .val (.int p1), .val (.long q2), .second, .val (.long q3), .second, .val (.int (0 : Int32)), .val (.int (own_P4 p1)), .val (.int (q3.toInt32)), .val (.ref b1), .val (.ref b6_r), .val (.ref b7_t), .val (.int (0 : Int32)), .unset, .unset] [(.int (own_P4 p1))])) t
        refine XS.iload X9.here hx rfl (hb hby at_288) rfl ?_
        show Steps p.tables e below (T9.setTop (mkF m 290 #[.val (.int p0), .val (.int p1), .val (.long q2), .second, .val (.long q3), .second, .val (.int (0 : Int32)), .val (.int (own_P4 p1)), .val (.int (q3.toInt32)), .val (.ref b1), .val (.ref b6_r), .val (.ref b7_t), .val (.int (0 : Int32)), .unset, .unset] [(.int (own_P4 p1)), (.int (own_P4 p1))])) t
        refine XS.icmpNo X9.here hx rfl (hb hby at_290) rfl (teq (rfl : (own_P4 p1) = (own_P4 p1))).2 ?_
        show Steps p.tables e below (T9.setTop (mkF m 293 #[.val (.int p0), .val (.int p1), .val (.long q2), .second, .val (.long q3), .second, .val (.int (0 : Int32)), .val (.int (own_P4 p1)), .val (.int (q3.toInt32)), .val (.ref b1), .val (.ref b6_r), .val (.ref b7_t), .val (.int (0 : Int32)), .unset, .unset] [])) t
        refine XS.aload X9.here hx rfl (hb hby at_293) rfl rfl ?_
        exact kt
      obtain ⟨kk10, cl10, Ar10, qz10, S10, N10a, H10, G10⟩ := id (P7_3)
      refine OGo.step (F' := T9.setTop (mkF m 296 #[.val (.int p0), .val (.int p1), .val (.long q2), .second, .val (.long q3), .second, .val (.int (0 : Int32)), .val (.int (own_P4 p1)), .val (.int (q3.toInt32)), .val (.ref b1), .val (.ref b6_r), .val (.ref b7_t), .val (.int (0 : Int32)), .unset, .unset] [(.int (Int32.ofNat (own_clr (own_P4 p1) (own_ys (q3.toInt32))).length))])) (fun t kt => ?_) ?_
      · show Steps p.tables e below (T9.setTop (mkF m 295 #[.val (.int p0), .val (.int p1), .val (.long q2), .second, .val (.long q3), .second, .val (.int (0 : Int32)), .val (.int (own_P4 p1)), .val (.int (q3.toInt32)), .val (.ref b1), .val (.ref b6_r), .val (.ref b7_t), .val (.int (0 : Int32)), .unset, .unset] [(.ref b7_t)])) t
        refine X9.arraylength hx (by rw [e9]; exact Ar10.1) (State.isArrayOf_alike hZ.alike Ar10.2.1) (g := (mkF m 295 #[.val (.int p0), .val (.int p1), .val (.long q2), .second, .val (.long q3), .second, .val (.int (0 : Int32)), .val (.int (own_P4 p1)), .val (.int (q3.toInt32)), .val (.ref b1), .val (.ref b6_r), .val (.ref b7_t), .val (.int (0 : Int32)), .unset, .unset] [(.ref b7_t)])) rfl rfl (hb hby at_295) _ ?_
        rw [len_of S10 N10a]
        exact kt
      refine OGo.step (F' := T9.setTop (mkF m 303 #[.val (.int p0), .val (.int p1), .val (.long q2), .second, .val (.long q3), .second, .val (.int (0 : Int32)), .val (.int (own_P4 p1)), .val (.int (q3.toInt32)), .val (.ref b1), .val (.ref b6_r), .val (.ref b7_t), .val (.int (0 : Int32)), .unset, .unset] [(.int (0 : Int32)), (.ref b7_t)])) (fun t kt => ?_) ?_
      · show Steps p.tables e below (T9.setTop (mkF m 296 #[.val (.int p0), .val (.int p1), .val (.long q2), .second, .val (.long q3), .second, .val (.int (0 : Int32)), .val (.int (own_P4 p1)), .val (.int (q3.toInt32)), .val (.ref b1), .val (.ref b6_r), .val (.ref b7_t), .val (.int (0 : Int32)), .unset, .unset] [(.int (Int32.ofNat (own_clr (own_P4 p1) (own_ys (q3.toInt32))).length))])) t
        refine XS.iconst X9.here hx rfl (hb hby at_296) ?_
        show Steps p.tables e below (T9.setTop (mkF m 297 #[.val (.int p0), .val (.int p1), .val (.long q2), .second, .val (.long q3), .second, .val (.int (0 : Int32)), .val (.int (own_P4 p1)), .val (.int (q3.toInt32)), .val (.ref b1), .val (.ref b6_r), .val (.ref b7_t), .val (.int (0 : Int32)), .unset, .unset] [(.int (4 : Int32)), (.int (Int32.ofNat (own_clr (own_P4 p1) (own_ys (q3.toInt32))).length))])) t
        refine XS.icmpNo X9.here hx rfl (hb hby at_297) rfl (teq (own_l4 _ _)).2 ?_
        show Steps p.tables e below (T9.setTop (mkF m 300 #[.val (.int p0), .val (.int p1), .val (.long q2), .second, .val (.long q3), .second, .val (.int (0 : Int32)), .val (.int (own_P4 p1)), .val (.int (q3.toInt32)), .val (.ref b1), .val (.ref b6_r), .val (.ref b7_t), .val (.int (0 : Int32)), .unset, .unset] [])) t
        refine XS.aload X9.here hx rfl (hb hby at_300) rfl rfl ?_
        show Steps p.tables e below (T9.setTop (mkF m 302 #[.val (.int p0), .val (.int p1), .val (.long q2), .second, .val (.long q3), .second, .val (.int (0 : Int32)), .val (.int (own_P4 p1)), .val (.int (q3.toInt32)), .val (.ref b1), .val (.ref b6_r), .val (.ref b7_t), .val (.int (0 : Int32)), .unset, .unset] [(.ref b7_t)])) t
        refine XS.iconst X9.here hx rfl (hb hby at_302) ?_
        exact kt
      refine OGo.callS X9 hx hZ (y := (⟨"com/example/veiled_alerts/veiledalerts/model/NetworkContainingPinLaw", "get4", "([BI)I"⟩ : MethodName)) hown (own_wd hw 63 rfl) (own_wd hw 64 rfl) (own_wd hw 4 rfl) (own_wd hw 65 rfl) (by decide) (rm10_0 l Z az hw [] b7_t (own_clr (own_P4 p1) (own_ys (q3.toInt32))) T7.heap n0 (Nat.le_trans Z0 KC7.1) P7_3 (own_clrl _ _)) (W := 0) (by decide) (by decide) (g := (mkF m 303 #[.val (.int p0), .val (.int p1), .val (.long q2), .second, .val (.long q3), .second, .val (.int (0 : Int32)), .val (.int (own_P4 p1)), .val (.int (q3.toInt32)), .val (.ref b1), .val (.ref b6_r), .val (.ref b7_t), .val (.int (0 : Int32)), .unset, .unset] [(.int (0 : Int32)), (.ref b7_t)])) rfl (by rw [hml]; rfl) (argsL := [(.ref b7_t), (.int (0 : Int32))]) (rest := []) (lenOf pd_0_6 rfl) rfl (by show 2 * 0 + _ ≤ _; exact Nat.le_of_eq rfl) (hb hby at_303) rfl e9 (by decide) (by decide) ?_
      rintro _ T11 L11 X11 ⟨rfl, Nq11, e11⟩
      have N11 := Fr.app N9 Nq11
      show OGo _ _ _ _ _ _ _ (T11.setTop (mkF m 306 #[.val (.int p0), .val (.int p1), .val (.long q2), .second, .val (.long q3), .second, .val (.int (0 : Int32)), .val (.int (own_P4 p1)), .val (.int (q3.toInt32)), .val (.ref b1), .val (.ref b6_r), .val (.ref b7_t), .val (.int (0 : Int32)), .unset, .unset] [(.int (f10_0 (own_clr (own_P4 p1) (own_ys (q3.toInt32)))))]))
      refine OGo.step (F' := T11.setTop (mkF m 317 #[.val (.int p0), .val (.int p1), .val (.long q2), .second, .val (.long q3), .second, .val (.int (0 : Int32)), .val (.int (own_P4 p1)), .val (.int (q3.toInt32)), .val (.ref b1), .val (.ref b6_r), .val (.ref b7_t), .val (.int (0 : Int32)), .unset, .unset] [(.int (0 : Int32)), (.ref b1)])) (fun t kt => ?_) ?_
      · show Steps p.tables e below (T11.setTop (mkF m 306 #[.val (.int p0), .val (.int p1), .val (.long q2), .second, .val (.long q3), .second, .val (.int (0 : Int32)), .val (.int (own_P4 p1)), .val (.int (q3.toInt32)), .val (.ref b1), .val (.ref b6_r), .val (.ref b7_t), .val (.int (0 : Int32)), .unset, .unset] [(.int (f10_0 (own_clr (own_P4 p1) (own_ys (q3.toInt32)))))])) t
        refine XS.iload X11.here hx rfl (hb hby at_306) rfl ?_
        show Steps p.tables e below (T11.setTop (mkF m 308 #[.val (.int p0), .val (.int p1), .val (.long q2), .second, .val (.long q3), .second, .val (.int (0 : Int32)), .val (.int (own_P4 p1)), .val (.int (q3.toInt32)), .val (.ref b1), .val (.ref b6_r), .val (.ref b7_t), .val (.int (0 : Int32)), .unset, .unset] [(.int (q3.toInt32)), (.int (f10_0 (own_clr (own_P4 p1) (own_ys (q3.toInt32)))))])) t
        refine XS.iload X11.here hx rfl (hb hby at_308) rfl ?_
        show Steps p.tables e below (T11.setTop (mkF m 310 #[.val (.int p0), .val (.int p1), .val (.long q2), .second, .val (.long q3), .second, .val (.int (0 : Int32)), .val (.int (own_P4 p1)), .val (.int (q3.toInt32)), .val (.ref b1), .val (.ref b6_r), .val (.ref b7_t), .val (.int (0 : Int32)), .unset, .unset] [(.int (0 : Int32)), (.int (q3.toInt32)), (.int (f10_0 (own_clr (own_P4 p1) (own_ys (q3.toInt32)))))])) t
        refine XS.iand X11.here hx rfl (hb hby at_310) rfl ?_
        show Steps p.tables e below (T11.setTop (mkF m 311 #[.val (.int p0), .val (.int p1), .val (.long q2), .second, .val (.long q3), .second, .val (.int (0 : Int32)), .val (.int (own_P4 p1)), .val (.int (q3.toInt32)), .val (.ref b1), .val (.ref b6_r), .val (.ref b7_t), .val (.int (0 : Int32)), .unset, .unset] [(.int ((q3.toInt32) &&& (0 : Int32))), (.int (f10_0 (own_clr (own_P4 p1) (own_ys (q3.toInt32)))))])) t
        refine XS.icmpNo X11.here hx rfl (hb hby at_311) rfl (teq (own_y1 _ _ hc267)).2 ?_
        show Steps p.tables e below (T11.setTop (mkF m 314 #[.val (.int p0), .val (.int p1), .val (.long q2), .second, .val (.long q3), .second, .val (.int (0 : Int32)), .val (.int (own_P4 p1)), .val (.int (q3.toInt32)), .val (.ref b1), .val (.ref b6_r), .val (.ref b7_t), .val (.int (0 : Int32)), .unset, .unset] [])) t
        refine XS.aload X11.here hx rfl (hb hby at_314) rfl rfl ?_
        show Steps p.tables e below (T11.setTop (mkF m 316 #[.val (.int p0), .val (.int p1), .val (.long q2), .second, .val (.long q3), .second, .val (.int (0 : Int32)), .val (.int (own_P4 p1)), .val (.int (q3.toInt32)), .val (.ref b1), .val (.ref b6_r), .val (.ref b7_t), .val (.int (0 : Int32)), .unset, .unset] [(.ref b1)])) t
        refine XS.iconst X11.here hx rfl (hb hby at_316) ?_
        exact kt
      refine OGo.callS X11 hx hZ (y := (⟨"com/example/veiled_alerts/veiledalerts/model/NetworkContainingPinLaw", "get4", "([BI)I"⟩ : MethodName)) hown (own_wd hw 63 rfl) (own_wd hw 64 rfl) (own_wd hw 4 rfl) (own_wd hw 65 rfl) (by decide) (rm10_0 l Z az hw [] b1 (own_ys (q3.toInt32)) T7.heap n0 (Nat.le_trans Z0 KC7.1) ((((O3.ext E4).keep K5 (ninS (Nat.ne_of_lt (Nat.lt_of_lt_of_le O3.lt (Nat.le_of_eq g4.symm))) nin0)).keep K6 nin0).keep K7 nin0) rfl) (W := 0) (by decide) (by decide) (g := (mkF m 317 #[.val (.int p0), .val (.int p1), .val (.long q2), .second, .val (.long q3), .second, .val (.int (0 : Int32)), .val (.int (own_P4 p1)), .val (.int (q3.toInt32)), .val (.ref b1), .val (.ref b6_r), .val (.ref b7_t), .val (.int (0 : Int32)), .unset, .unset] [(.int (0 : Int32)), (.ref b1)])) rfl (by rw [hml]; rfl) (argsL := [(.ref b1), (.int (0 : Int32))]) (rest := []) (lenOf pd_0_6 rfl) rfl (by show 2 * 0 + _ ≤ _; exact Nat.le_of_eq rfl) (hb hby at_317) rfl e11 (by decide) (by decide) ?_
      rintro _ T12 L12 X12 ⟨rfl, Nq12, e12⟩
      have N12 := Fr.app N11 Nq12
      show OGo _ _ _ _ _ _ _ (T12.setTop (mkF m 320 #[.val (.int p0), .val (.int p1), .val (.long q2), .second, .val (.long q3), .second, .val (.int (0 : Int32)), .val (.int (own_P4 p1)), .val (.int (q3.toInt32)), .val (.ref b1), .val (.ref b6_r), .val (.ref b7_t), .val (.int (0 : Int32)), .unset, .unset] [(.int (f10_0 (own_ys (q3.toInt32))))]))
      refine OGo.step (F' := T12.setTop (mkF m 330 #[.val (.int p0), .val (.int p1), .val (.long q2), .second, .val (.long q3), .second, .val (.int (0 : Int32)), .val (.int (own_P4 p1)), .val (.int (q3.toInt32)), .val (.ref b1), .val (.ref b6_r), .val (.ref b7_t), .val (.int (0 : Int32)), .unset, .unset] [(.int (1 : Int32))])) (fun t kt => ?_) ?_
      · show Steps p.tables e below (T12.setTop (mkF m 320 #[.val (.int p0), .val (.int p1), .val (.long q2), .second, .val (.long q3), .second, .val (.int (0 : Int32)), .val (.int (own_P4 p1)), .val (.int (q3.toInt32)), .val (.ref b1), .val (.ref b6_r), .val (.ref b7_t), .val (.int (0 : Int32)), .unset, .unset] [(.int (f10_0 (own_ys (q3.toInt32))))])) t
        refine XS.iload X12.here hx rfl (hb hby at_320) rfl ?_
        show Steps p.tables e below (T12.setTop (mkF m 322 #[.val (.int p0), .val (.int p1), .val (.long q2), .second, .val (.long q3), .second, .val (.int (0 : Int32)), .val (.int (own_P4 p1)), .val (.int (q3.toInt32)), .val (.ref b1), .val (.ref b6_r), .val (.ref b7_t), .val (.int (0 : Int32)), .unset, .unset] [(.int (q3.toInt32)), (.int (f10_0 (own_ys (q3.toInt32))))])) t
        refine XS.icmpNo X12.here hx rfl (hb hby at_322) rfl (teq (own_gy _)).2 ?_
        show Steps p.tables e below (T12.setTop (mkF m 325 #[.val (.int p0), .val (.int p1), .val (.long q2), .second, .val (.long q3), .second, .val (.int (0 : Int32)), .val (.int (own_P4 p1)), .val (.int (q3.toInt32)), .val (.ref b1), .val (.ref b6_r), .val (.ref b7_t), .val (.int (0 : Int32)), .unset, .unset] [])) t
        refine XS.iconst X12.here hx rfl (hb hby at_325) ?_
        show Steps p.tables e below (T12.setTop (mkF m 326 #[.val (.int p0), .val (.int p1), .val (.long q2), .second, .val (.long q3), .second, .val (.int (0 : Int32)), .val (.int (own_P4 p1)), .val (.int (q3.toInt32)), .val (.ref b1), .val (.ref b6_r), .val (.ref b7_t), .val (.int (0 : Int32)), .unset, .unset] [(.int (1 : Int32))])) t
        refine XS.goto X12.here hx rfl (pc0 := 326) (pc' := 330) rfl (hb hby at_326) (by decide) (by decide) ?_
        exact kt
      refine OGo.retZ X12 hx hlk (t := .boolean) (z' := (1 : Int32)) hret (by simp) (hb hby at_330) rfl ?_ (by decide) (by decide)
      show Q0 Z p0 p1 q2 q3 h0 n0 _ T12.heap _
      rw [e12]
      exact ⟨rfl, N12, KC7⟩
    · refine OGo.step (F' := T8.setTop (mkF m 274 #[.val (.int p0), .val (.int p1), .val (.long q2), .second, .val (.long q3), .second, .val (.int (0 : Int32)), .val (.int (own_P4 p1)), .val (.int (q3.toInt32)), .val (.ref b1), .val (.ref b6_r), .val (.ref b7_t), .unset, .unset, .unset] [])) (fun t kt => ?_) ?_
      · show Steps p.tables e below (T8.setTop (mkF m 267 #[.val (.int p0), .val (.int p1), .val (.long q2), .second, .val (.long q3), .second, .val (.int (0 : Int32)), .val (.int (own_P4 p1)), .val (.int (q3.toInt32)), .val (.ref b1), .val (.ref b6_r), .val (.ref b7_t), .unset, .unset, .unset] [(.int (own_P4 p1))])) t
        refine XS.ifYes X8.here hx rfl (pc0 := 267) (pc' := 274) rfl (hb hby at_267) rfl ((if0 _ _).trans (feq hc267).2) (by decide) (by decide) ?_
        exact kt
      refine OGo.step (F' := T8.setTop (mkF m 285 #[.val (.int p0), .val (.int p1), .val (.long q2), .second, .val (.long q3), .second, .val (.int (0 : Int32)), .val (.int (own_P4 p1)), .val (.int (q3.toInt32)), .val (.ref b1), .val (.ref b6_r), .val (.ref b7_t), .val (.int ((-1 : Int32) <<< (((32 : Int32) - (own_P4 p1)) &&& 31))), .unset, .unset] [(.ref b6_r)])) (fun t kt => ?_) ?_
      · show Steps p.tables e below (T8.setTop (mkF m 274 #[.val (.int p0), .val (.int p1), .val (.long q2), .second, .val (.long q3), .second, .val (.int (0 : Int32)), .val (.int (own_P4 p1)), .val (.int (q3.toInt32)), .val (.ref b1), .val (.ref b6_r), .val (.ref b7_t), .unset, .unset, .unset] [])) t
        refine XS.iconst X8.here hx rfl (hb hby at_274) ?_
        show Steps p.tables e below (T8.setTop (mkF m 275 #[.val (.int p0), .val (.int p1), .val (.long q2), .second, .val (.long q3), .second, .val (.int (0 : Int32)), .val (.int (own_P4 p1)), .val (.int (q3.toInt32)), .val (.ref b1), .val (.ref b6_r), .val (.ref b7_t), .unset, .unset, .unset] [(.int (-1 : Int32))])) t
        refine XS.bipush X8.here hx rfl (hb hby at_275) ?_
        show Steps p.tables e below (T8.setTop (mkF m 277 #[.val (.int p0), .val (.int p1), .val (.long q2), .second, .val (.long q3), .second, .val (.int (0 : Int32)), .val (.int (own_P4 p1)), .val (.int (q3.toInt32)), .val (.ref b1), .val (.ref b6_r), .val (.ref b7_t), .unset, .unset, .unset] [(.int (32 : Int32)), (.int (-1 : Int32))])) t
        refine XS.iload X8.here hx rfl (hb hby at_277) rfl ?_
        show Steps p.tables e below (T8.setTop (mkF m 279 #[.val (.int p0), .val (.int p1), .val (.long q2), .second, .val (.long q3), .second, .val (.int (0 : Int32)), .val (.int (own_P4 p1)), .val (.int (q3.toInt32)), .val (.ref b1), .val (.ref b6_r), .val (.ref b7_t), .unset, .unset, .unset] [(.int (own_P4 p1)), (.int (32 : Int32)), (.int (-1 : Int32))])) t
        refine XS.isub X8.here hx rfl (hb hby at_279) rfl ?_
        show Steps p.tables e below (T8.setTop (mkF m 280 #[.val (.int p0), .val (.int p1), .val (.long q2), .second, .val (.long q3), .second, .val (.int (0 : Int32)), .val (.int (own_P4 p1)), .val (.int (q3.toInt32)), .val (.ref b1), .val (.ref b6_r), .val (.ref b7_t), .unset, .unset, .unset] [(.int ((32 : Int32) - (own_P4 p1))), (.int (-1 : Int32))])) t
        refine XS.ishl X8.here hx rfl (hb hby at_280) rfl ?_
        show Steps p.tables e below (T8.setTop (mkF m 281 #[.val (.int p0), .val (.int p1), .val (.long q2), .second, .val (.long q3), .second, .val (.int (0 : Int32)), .val (.int (own_P4 p1)), .val (.int (q3.toInt32)), .val (.ref b1), .val (.ref b6_r), .val (.ref b7_t), .unset, .unset, .unset] [(.int ((-1 : Int32) <<< (((32 : Int32) - (own_P4 p1)) &&& 31)))])) t
        refine XS.istore X8.here hx rfl (hb hby at_281) rfl (l' := #[.val (.int p0), .val (.int p1), .val (.long q2), .second, .val (.long q3), .second, .val (.int (0 : Int32)), .val (.int (own_P4 p1)), .val (.int (q3.toInt32)), .val (.ref b1), .val (.ref b6_r), .val (.ref b7_t), .val (.int ((-1 : Int32) <<< (((32 : Int32) - (own_P4 p1)) &&& 31))), .unset, .unset]) rfl ?_
        show Steps p.tables e below (T8.setTop (mkF m 283 #[.val (.int p0), .val (.int p1), .val (.long q2), .second, .val (.long q3), .second, .val (.int (0 : Int32)), .val (.int (own_P4 p1)), .val (.int (q3.toInt32)), .val (.ref b1), .val (.ref b6_r), .val (.ref b7_t), .val (.int ((-1 : Int32) <<< (((32 : Int32) - (own_P4 p1)) &&& 31))), .unset, .unset] [])) t
        refine XS.aload X8.here hx rfl (hb hby at_283) rfl rfl ?_
        exact kt
      refine OGo.callV X8 hx hZ (y := (⟨"com/example/veiled_alerts/veiledalerts/model/Network", "prefixLength", "()I"⟩ : MethodName)) (z := (⟨"com/example/veiled_alerts/veiledalerts/model/Network", "prefixLength", "()I"⟩ : MethodName)) hown (own_wd hw 58 rfl) (own_wd hw 59 rfl) (notFace_of_selects (args := #[]) (mvT hZ (own_wd hw 61 rfl))) (own_wd hw 61 rfl) (own_wd hw 60 rfl) (own_wd hw 19 rfl) (own_wd hw 62 rfl) (by decide) (rm9 l Z az hw [] b6_r (own_P4 p1) T7.heap n0 (Nat.le_trans Z0 KC7.1) (P6_2.keep K7 nin0)) (W := 0) (by decide) (by decide) (P6_0.keep K7) (g := (mkF m 285 #[.val (.int p0), .val (.int p1), .val (.long q2), .second, .val (.long q3), .second, .val (.int (0 : Int32)), .val (.int (own_P4 p1)), .val (.int (q3.toInt32)), .val (.ref b1), .val (.ref b6_r), .val (.ref b7_t), .val (.int ((-1 : Int32) <<< (((32 : Int32) - (own_P4 p1)) &&& 31))), .unset, .unset] [(.ref b6_r)])) rfl (by rw [hml]; rfl) (argsL := []) (rest := []) (lenOf pd_0_5 rfl) rfl (by show 2 * 0 + _ ≤ _; exact Nat.le_of_eq rfl) (hb hby at_285) rfl e8 (by decide) (by decide) ?_
      rintro _ T13 L13 X13 ⟨hv13, Nq13, e13⟩
      have N13 := Fr.app N8 Nq13
      rw [show (f9 (own_P4 p1)) = (own_P4 p1) from rfl] at hv13
      subst hv13
      show OGo _ _ _ _ _ _ _ (T13.setTop (mkF m 288 #[.val (.int p0), .val (.int p1), .val (.long q2), .second, .val (.long q3), .second, .val (.int (0 : Int32)), .val (.int (own_P4 p1)), .val (.int (q3.toInt32)), .val (.ref b1), .val (.ref b6_r), .val (.ref b7_t), .val (.int ((-1 : Int32) <<< (((32 : Int32) - (own_P4 p1)) &&& 31))), .unset, .unset] [(.int (own_P4 p1))]))
      refine OGo.step (F' := T13.setTop (mkF m 295 #[.val (.int p0), .val (.int p1), .val (.long q2), .second, .val (.long q3), .second, .val (.int (0 : Int32)), .val (.int (own_P4 p1)), .val (.int (q3.toInt32)), .val (.ref b1), .val (.ref b6_r), .val (.ref b7_t), .val (.int ((-1 : Int32) <<< (((32 : Int32) - (own_P4 p1)) &&& 31))), .unset, .unset] [(.ref b7_t)])) (fun t kt => ?_) ?_
      · show Steps p.tables e below (T13.setTop (mkF m 288 #[.val (.int p0), .val (.int p1), .val (.long q2), .second, .val (.long q3), .second, .val (.int (0 : Int32)), .val (.int (own_P4 p1)), .val (.int (q3.toInt32)), .val (.ref b1), .val (.ref b6_r), .val (.ref b7_t), .val (.int ((-1 : Int32) <<< (((32 : Int32) - (own_P4 p1)) &&& 31))), .unset, .unset] [(.int (own_P4 p1))])) t
        refine XS.iload X13.here hx rfl (hb hby at_288) rfl ?_
        show Steps p.tables e below (T13.setTop (mkF m 290 #[.val (.int p0), .val (.int p1), .val (.long q2), .second, .val (.long q3), .second, .val (.int (0 : Int32)), .val (.int (own_P4 p1)), .val (.int (q3.toInt32)), .val (.ref b1), .val (.ref b6_r), .val (.ref b7_t), .val (.int ((-1 : Int32) <<< (((32 : Int32) - (own_P4 p1)) &&& 31))), .unset, .unset] [(.int (own_P4 p1)), (.int (own_P4 p1))])) t
        refine XS.icmpNo X13.here hx rfl (hb hby at_290) rfl (teq (rfl : (own_P4 p1) = (own_P4 p1))).2 ?_
        show Steps p.tables e below (T13.setTop (mkF m 293 #[.val (.int p0), .val (.int p1), .val (.long q2), .second, .val (.long q3), .second, .val (.int (0 : Int32)), .val (.int (own_P4 p1)), .val (.int (q3.toInt32)), .val (.ref b1), .val (.ref b6_r), .val (.ref b7_t), .val (.int ((-1 : Int32) <<< (((32 : Int32) - (own_P4 p1)) &&& 31))), .unset, .unset] [])) t
        refine XS.aload X13.here hx rfl (hb hby at_293) rfl rfl ?_
        exact kt
      obtain ⟨kk14, cl14, Ar14, qz14, S14, N14a, H14, G14⟩ := id (P7_3)
      refine OGo.step (F' := T13.setTop (mkF m 296 #[.val (.int p0), .val (.int p1), .val (.long q2), .second, .val (.long q3), .second, .val (.int (0 : Int32)), .val (.int (own_P4 p1)), .val (.int (q3.toInt32)), .val (.ref b1), .val (.ref b6_r), .val (.ref b7_t), .val (.int ((-1 : Int32) <<< (((32 : Int32) - (own_P4 p1)) &&& 31))), .unset, .unset] [(.int (Int32.ofNat (own_clr (own_P4 p1) (own_ys (q3.toInt32))).length))])) (fun t kt => ?_) ?_
      · show Steps p.tables e below (T13.setTop (mkF m 295 #[.val (.int p0), .val (.int p1), .val (.long q2), .second, .val (.long q3), .second, .val (.int (0 : Int32)), .val (.int (own_P4 p1)), .val (.int (q3.toInt32)), .val (.ref b1), .val (.ref b6_r), .val (.ref b7_t), .val (.int ((-1 : Int32) <<< (((32 : Int32) - (own_P4 p1)) &&& 31))), .unset, .unset] [(.ref b7_t)])) t
        refine X13.arraylength hx (by rw [e13]; exact Ar14.1) (State.isArrayOf_alike hZ.alike Ar14.2.1) (g := (mkF m 295 #[.val (.int p0), .val (.int p1), .val (.long q2), .second, .val (.long q3), .second, .val (.int (0 : Int32)), .val (.int (own_P4 p1)), .val (.int (q3.toInt32)), .val (.ref b1), .val (.ref b6_r), .val (.ref b7_t), .val (.int ((-1 : Int32) <<< (((32 : Int32) - (own_P4 p1)) &&& 31))), .unset, .unset] [(.ref b7_t)])) rfl rfl (hb hby at_295) _ ?_
        rw [len_of S14 N14a]
        exact kt
      refine OGo.step (F' := T13.setTop (mkF m 303 #[.val (.int p0), .val (.int p1), .val (.long q2), .second, .val (.long q3), .second, .val (.int (0 : Int32)), .val (.int (own_P4 p1)), .val (.int (q3.toInt32)), .val (.ref b1), .val (.ref b6_r), .val (.ref b7_t), .val (.int ((-1 : Int32) <<< (((32 : Int32) - (own_P4 p1)) &&& 31))), .unset, .unset] [(.int (0 : Int32)), (.ref b7_t)])) (fun t kt => ?_) ?_
      · show Steps p.tables e below (T13.setTop (mkF m 296 #[.val (.int p0), .val (.int p1), .val (.long q2), .second, .val (.long q3), .second, .val (.int (0 : Int32)), .val (.int (own_P4 p1)), .val (.int (q3.toInt32)), .val (.ref b1), .val (.ref b6_r), .val (.ref b7_t), .val (.int ((-1 : Int32) <<< (((32 : Int32) - (own_P4 p1)) &&& 31))), .unset, .unset] [(.int (Int32.ofNat (own_clr (own_P4 p1) (own_ys (q3.toInt32))).length))])) t
        refine XS.iconst X13.here hx rfl (hb hby at_296) ?_
        show Steps p.tables e below (T13.setTop (mkF m 297 #[.val (.int p0), .val (.int p1), .val (.long q2), .second, .val (.long q3), .second, .val (.int (0 : Int32)), .val (.int (own_P4 p1)), .val (.int (q3.toInt32)), .val (.ref b1), .val (.ref b6_r), .val (.ref b7_t), .val (.int ((-1 : Int32) <<< (((32 : Int32) - (own_P4 p1)) &&& 31))), .unset, .unset] [(.int (4 : Int32)), (.int (Int32.ofNat (own_clr (own_P4 p1) (own_ys (q3.toInt32))).length))])) t
        refine XS.icmpNo X13.here hx rfl (hb hby at_297) rfl (teq (own_l4 _ _)).2 ?_
        show Steps p.tables e below (T13.setTop (mkF m 300 #[.val (.int p0), .val (.int p1), .val (.long q2), .second, .val (.long q3), .second, .val (.int (0 : Int32)), .val (.int (own_P4 p1)), .val (.int (q3.toInt32)), .val (.ref b1), .val (.ref b6_r), .val (.ref b7_t), .val (.int ((-1 : Int32) <<< (((32 : Int32) - (own_P4 p1)) &&& 31))), .unset, .unset] [])) t
        refine XS.aload X13.here hx rfl (hb hby at_300) rfl rfl ?_
        show Steps p.tables e below (T13.setTop (mkF m 302 #[.val (.int p0), .val (.int p1), .val (.long q2), .second, .val (.long q3), .second, .val (.int (0 : Int32)), .val (.int (own_P4 p1)), .val (.int (q3.toInt32)), .val (.ref b1), .val (.ref b6_r), .val (.ref b7_t), .val (.int ((-1 : Int32) <<< (((32 : Int32) - (own_P4 p1)) &&& 31))), .unset, .unset] [(.ref b7_t)])) t
        refine XS.iconst X13.here hx rfl (hb hby at_302) ?_
        exact kt
      refine OGo.callS X13 hx hZ (y := (⟨"com/example/veiled_alerts/veiledalerts/model/NetworkContainingPinLaw", "get4", "([BI)I"⟩ : MethodName)) hown (own_wd hw 63 rfl) (own_wd hw 64 rfl) (own_wd hw 4 rfl) (own_wd hw 65 rfl) (by decide) (rm10_0 l Z az hw [] b7_t (own_clr (own_P4 p1) (own_ys (q3.toInt32))) T7.heap n0 (Nat.le_trans Z0 KC7.1) P7_3 (own_clrl _ _)) (W := 0) (by decide) (by decide) (g := (mkF m 303 #[.val (.int p0), .val (.int p1), .val (.long q2), .second, .val (.long q3), .second, .val (.int (0 : Int32)), .val (.int (own_P4 p1)), .val (.int (q3.toInt32)), .val (.ref b1), .val (.ref b6_r), .val (.ref b7_t), .val (.int ((-1 : Int32) <<< (((32 : Int32) - (own_P4 p1)) &&& 31))), .unset, .unset] [(.int (0 : Int32)), (.ref b7_t)])) rfl (by rw [hml]; rfl) (argsL := [(.ref b7_t), (.int (0 : Int32))]) (rest := []) (lenOf pd_0_6 rfl) rfl (by show 2 * 0 + _ ≤ _; exact Nat.le_of_eq rfl) (hb hby at_303) rfl e13 (by decide) (by decide) ?_
      rintro _ T15 L15 X15 ⟨rfl, Nq15, e15⟩
      have N15 := Fr.app N13 Nq15
      show OGo _ _ _ _ _ _ _ (T15.setTop (mkF m 306 #[.val (.int p0), .val (.int p1), .val (.long q2), .second, .val (.long q3), .second, .val (.int (0 : Int32)), .val (.int (own_P4 p1)), .val (.int (q3.toInt32)), .val (.ref b1), .val (.ref b6_r), .val (.ref b7_t), .val (.int ((-1 : Int32) <<< (((32 : Int32) - (own_P4 p1)) &&& 31))), .unset, .unset] [(.int (f10_0 (own_clr (own_P4 p1) (own_ys (q3.toInt32)))))]))
      refine OGo.step (F' := T15.setTop (mkF m 317 #[.val (.int p0), .val (.int p1), .val (.long q2), .second, .val (.long q3), .second, .val (.int (0 : Int32)), .val (.int (own_P4 p1)), .val (.int (q3.toInt32)), .val (.ref b1), .val (.ref b6_r), .val (.ref b7_t), .val (.int ((-1 : Int32) <<< (((32 : Int32) - (own_P4 p1)) &&& 31))), .unset, .unset] [(.int (0 : Int32)), (.ref b1)])) (fun t kt => ?_) ?_
      · show Steps p.tables e below (T15.setTop (mkF m 306 #[.val (.int p0), .val (.int p1), .val (.long q2), .second, .val (.long q3), .second, .val (.int (0 : Int32)), .val (.int (own_P4 p1)), .val (.int (q3.toInt32)), .val (.ref b1), .val (.ref b6_r), .val (.ref b7_t), .val (.int ((-1 : Int32) <<< (((32 : Int32) - (own_P4 p1)) &&& 31))), .unset, .unset] [(.int (f10_0 (own_clr (own_P4 p1) (own_ys (q3.toInt32)))))])) t
        refine XS.iload X15.here hx rfl (hb hby at_306) rfl ?_
        show Steps p.tables e below (T15.setTop (mkF m 308 #[.val (.int p0), .val (.int p1), .val (.long q2), .second, .val (.long q3), .second, .val (.int (0 : Int32)), .val (.int (own_P4 p1)), .val (.int (q3.toInt32)), .val (.ref b1), .val (.ref b6_r), .val (.ref b7_t), .val (.int ((-1 : Int32) <<< (((32 : Int32) - (own_P4 p1)) &&& 31))), .unset, .unset] [(.int (q3.toInt32)), (.int (f10_0 (own_clr (own_P4 p1) (own_ys (q3.toInt32)))))])) t
        refine XS.iload X15.here hx rfl (hb hby at_308) rfl ?_
        show Steps p.tables e below (T15.setTop (mkF m 310 #[.val (.int p0), .val (.int p1), .val (.long q2), .second, .val (.long q3), .second, .val (.int (0 : Int32)), .val (.int (own_P4 p1)), .val (.int (q3.toInt32)), .val (.ref b1), .val (.ref b6_r), .val (.ref b7_t), .val (.int ((-1 : Int32) <<< (((32 : Int32) - (own_P4 p1)) &&& 31))), .unset, .unset] [(.int ((-1 : Int32) <<< (((32 : Int32) - (own_P4 p1)) &&& 31))), (.int (q3.toInt32)), (.int (f10_0 (own_clr (own_P4 p1) (own_ys (q3.toInt32)))))])) t
        refine XS.iand X15.here hx rfl (hb hby at_310) rfl ?_
        show Steps p.tables e below (T15.setTop (mkF m 311 #[.val (.int p0), .val (.int p1), .val (.long q2), .second, .val (.long q3), .second, .val (.int (0 : Int32)), .val (.int (own_P4 p1)), .val (.int (q3.toInt32)), .val (.ref b1), .val (.ref b6_r), .val (.ref b7_t), .val (.int ((-1 : Int32) <<< (((32 : Int32) - (own_P4 p1)) &&& 31))), .unset, .unset] [(.int ((q3.toInt32) &&& ((-1 : Int32) <<< (((32 : Int32) - (own_P4 p1)) &&& 31)))), (.int (f10_0 (own_clr (own_P4 p1) (own_ys (q3.toInt32)))))])) t
        refine XS.icmpNo X15.here hx rfl (hb hby at_311) rfl (teq (own_y2 _ _ hc267)).2 ?_
        show Steps p.tables e below (T15.setTop (mkF m 314 #[.val (.int p0), .val (.int p1), .val (.long q2), .second, .val (.long q3), .second, .val (.int (0 : Int32)), .val (.int (own_P4 p1)), .val (.int (q3.toInt32)), .val (.ref b1), .val (.ref b6_r), .val (.ref b7_t), .val (.int ((-1 : Int32) <<< (((32 : Int32) - (own_P4 p1)) &&& 31))), .unset, .unset] [])) t
        refine XS.aload X15.here hx rfl (hb hby at_314) rfl rfl ?_
        show Steps p.tables e below (T15.setTop (mkF m 316 #[.val (.int p0), .val (.int p1), .val (.long q2), .second, .val (.long q3), .second, .val (.int (0 : Int32)), .val (.int (own_P4 p1)), .val (.int (q3.toInt32)), .val (.ref b1), .val (.ref b6_r), .val (.ref b7_t), .val (.int ((-1 : Int32) <<< (((32 : Int32) - (own_P4 p1)) &&& 31))), .unset, .unset] [(.ref b1)])) t
        refine XS.iconst X15.here hx rfl (hb hby at_316) ?_
        exact kt
      refine OGo.callS X15 hx hZ (y := (⟨"com/example/veiled_alerts/veiledalerts/model/NetworkContainingPinLaw", "get4", "([BI)I"⟩ : MethodName)) hown (own_wd hw 63 rfl) (own_wd hw 64 rfl) (own_wd hw 4 rfl) (own_wd hw 65 rfl) (by decide) (rm10_0 l Z az hw [] b1 (own_ys (q3.toInt32)) T7.heap n0 (Nat.le_trans Z0 KC7.1) ((((O3.ext E4).keep K5 (ninS (Nat.ne_of_lt (Nat.lt_of_lt_of_le O3.lt (Nat.le_of_eq g4.symm))) nin0)).keep K6 nin0).keep K7 nin0) rfl) (W := 0) (by decide) (by decide) (g := (mkF m 317 #[.val (.int p0), .val (.int p1), .val (.long q2), .second, .val (.long q3), .second, .val (.int (0 : Int32)), .val (.int (own_P4 p1)), .val (.int (q3.toInt32)), .val (.ref b1), .val (.ref b6_r), .val (.ref b7_t), .val (.int ((-1 : Int32) <<< (((32 : Int32) - (own_P4 p1)) &&& 31))), .unset, .unset] [(.int (0 : Int32)), (.ref b1)])) rfl (by rw [hml]; rfl) (argsL := [(.ref b1), (.int (0 : Int32))]) (rest := []) (lenOf pd_0_6 rfl) rfl (by show 2 * 0 + _ ≤ _; exact Nat.le_of_eq rfl) (hb hby at_317) rfl e15 (by decide) (by decide) ?_
      rintro _ T16 L16 X16 ⟨rfl, Nq16, e16⟩
      have N16 := Fr.app N15 Nq16
      show OGo _ _ _ _ _ _ _ (T16.setTop (mkF m 320 #[.val (.int p0), .val (.int p1), .val (.long q2), .second, .val (.long q3), .second, .val (.int (0 : Int32)), .val (.int (own_P4 p1)), .val (.int (q3.toInt32)), .val (.ref b1), .val (.ref b6_r), .val (.ref b7_t), .val (.int ((-1 : Int32) <<< (((32 : Int32) - (own_P4 p1)) &&& 31))), .unset, .unset] [(.int (f10_0 (own_ys (q3.toInt32))))]))
      refine OGo.step (F' := T16.setTop (mkF m 330 #[.val (.int p0), .val (.int p1), .val (.long q2), .second, .val (.long q3), .second, .val (.int (0 : Int32)), .val (.int (own_P4 p1)), .val (.int (q3.toInt32)), .val (.ref b1), .val (.ref b6_r), .val (.ref b7_t), .val (.int ((-1 : Int32) <<< (((32 : Int32) - (own_P4 p1)) &&& 31))), .unset, .unset] [(.int (1 : Int32))])) (fun t kt => ?_) ?_
      · show Steps p.tables e below (T16.setTop (mkF m 320 #[.val (.int p0), .val (.int p1), .val (.long q2), .second, .val (.long q3), .second, .val (.int (0 : Int32)), .val (.int (own_P4 p1)), .val (.int (q3.toInt32)), .val (.ref b1), .val (.ref b6_r), .val (.ref b7_t), .val (.int ((-1 : Int32) <<< (((32 : Int32) - (own_P4 p1)) &&& 31))), .unset, .unset] [(.int (f10_0 (own_ys (q3.toInt32))))])) t
        refine XS.iload X16.here hx rfl (hb hby at_320) rfl ?_
        show Steps p.tables e below (T16.setTop (mkF m 322 #[.val (.int p0), .val (.int p1), .val (.long q2), .second, .val (.long q3), .second, .val (.int (0 : Int32)), .val (.int (own_P4 p1)), .val (.int (q3.toInt32)), .val (.ref b1), .val (.ref b6_r), .val (.ref b7_t), .val (.int ((-1 : Int32) <<< (((32 : Int32) - (own_P4 p1)) &&& 31))), .unset, .unset] [(.int (q3.toInt32)), (.int (f10_0 (own_ys (q3.toInt32))))])) t
        refine XS.icmpNo X16.here hx rfl (hb hby at_322) rfl (teq (own_gy _)).2 ?_
        show Steps p.tables e below (T16.setTop (mkF m 325 #[.val (.int p0), .val (.int p1), .val (.long q2), .second, .val (.long q3), .second, .val (.int (0 : Int32)), .val (.int (own_P4 p1)), .val (.int (q3.toInt32)), .val (.ref b1), .val (.ref b6_r), .val (.ref b7_t), .val (.int ((-1 : Int32) <<< (((32 : Int32) - (own_P4 p1)) &&& 31))), .unset, .unset] [])) t
        refine XS.iconst X16.here hx rfl (hb hby at_325) ?_
        show Steps p.tables e below (T16.setTop (mkF m 326 #[.val (.int p0), .val (.int p1), .val (.long q2), .second, .val (.long q3), .second, .val (.int (0 : Int32)), .val (.int (own_P4 p1)), .val (.int (q3.toInt32)), .val (.ref b1), .val (.ref b6_r), .val (.ref b7_t), .val (.int ((-1 : Int32) <<< (((32 : Int32) - (own_P4 p1)) &&& 31))), .unset, .unset] [(.int (1 : Int32))])) t
        refine XS.goto X16.here hx rfl (pc0 := 326) (pc' := 330) rfl (hb hby at_326) (by decide) (by decide) ?_
        exact kt
      refine OGo.retZ X16 hx hlk (t := .boolean) (z' := (1 : Int32)) hret (by simp) (hb hby at_330) rfl ?_ (by decide) (by decide)
      show Q0 Z p0 p1 q2 q3 h0 n0 _ T16.heap _
      rw [e16]
      exact ⟨rfl, N16, KC7⟩
  · refine OGo.step (F' := s₁.setTop (mkF m 6 #[.val (.int p0), .val (.int p1), .val (.long q2), .second, .val (.long q3), .second, .unset, .unset, .unset, .unset, .unset, .unset, .unset, .unset, .unset] [])) (fun t kt => ?_) ?_
    · show Steps p.tables e below (s₁.setTop (mkF m 3 #[.val (.int p0), .val (.int p1), .val (.long q2), .second, .val (.long q3), .second, .unset, .unset, .unset, .unset, .unset, .unset, .unset, .unset, .unset] [(.int (p0 &&& (1 : Int32)))])) t
      refine XS.ifNo X0.here hx rfl (hb hby at_3) rfl ((if0 _ _).trans (feq hc3).1) ?_
      exact kt
    refine OGo.step (F' := s₁.setTop (mkF m 30 #[.val (.int p0), .val (.int p1), .val (.long q2), .second, .val (.long q3), .second, .val (.int (1 : Int32)), .val (.int (own_P p1)), .unset, .unset, .unset, .unset, .unset, .unset, .unset] [(.int (16 : Int32))])) (fun t kt => ?_) ?_
    · show Steps p.tables e below (s₁.setTop (mkF m 6 #[.val (.int p0), .val (.int p1), .val (.long q2), .second, .val (.long q3), .second, .unset, .unset, .unset, .unset, .unset, .unset, .unset, .unset, .unset] [])) t
      refine XS.iconst X0.here hx rfl (hb hby at_6) ?_
      show Steps p.tables e below (s₁.setTop (mkF m 7 #[.val (.int p0), .val (.int p1), .val (.long q2), .second, .val (.long q3), .second, .unset, .unset, .unset, .unset, .unset, .unset, .unset, .unset, .unset] [(.int (1 : Int32))])) t
      refine XS.goto X0.here hx rfl (pc0 := 7) (pc' := 11) rfl (hb hby at_7) (by decide) (by decide) ?_
      show Steps p.tables e below (s₁.setTop (mkF m 11 #[.val (.int p0), .val (.int p1), .val (.long q2), .second, .val (.long q3), .second, .unset, .unset, .unset, .unset, .unset, .unset, .unset, .unset, .unset] [(.int (1 : Int32))])) t
      refine XS.istore X0.here hx rfl (hb hby at_11) rfl (l' := #[.val (.int p0), .val (.int p1), .val (.long q2), .second, .val (.long q3), .second, .val (.int (1 : Int32)), .unset, .unset, .unset, .unset, .unset, .unset, .unset, .unset]) rfl ?_
      show Steps p.tables e below (s₁.setTop (mkF m 13 #[.val (.int p0), .val (.int p1), .val (.long q2), .second, .val (.long q3), .second, .val (.int (1 : Int32)), .unset, .unset, .unset, .unset, .unset, .unset, .unset, .unset] [])) t
      refine XS.iload X0.here hx rfl (hb hby at_13) rfl ?_
      show Steps p.tables e below (s₁.setTop (mkF m 15 #[.val (.int p0), .val (.int p1), .val (.long q2), .second, .val (.long q3), .second, .val (.int (1 : Int32)), .unset, .unset, .unset, .unset, .unset, .unset, .unset, .unset] [(.int (1 : Int32))])) t
      refine XS.ifNo X0.here hx rfl (hb hby at_15) rfl ((if0 _ _).trans (feq (by decide : ¬ ((1 : Int32) = (0 : Int32)))).1) ?_
      show Steps p.tables e below (s₁.setTop (mkF m 18 #[.val (.int p0), .val (.int p1), .val (.long q2), .second, .val (.long q3), .second, .val (.int (1 : Int32)), .unset, .unset, .unset, .unset, .unset, .unset, .unset, .unset] [])) t
      refine XS.iloadN X0.here hx rfl (hb hby at_18) rfl ?_
      show Steps p.tables e below (s₁.setTop (mkF m 19 #[.val (.int p0), .val (.int p1), .val (.long q2), .second, .val (.long q3), .second, .val (.int (1 : Int32)), .unset, .unset, .unset, .unset, .unset, .unset, .unset, .unset] [(.int p1)])) t
      refine X0.ldcInt hx hown (mvT hZ (own_wd hw 0 rfl)) (g := (mkF m 19 #[.val (.int p0), .val (.int p1), .val (.long q2), .second, .val (.long q3), .second, .val (.int (1 : Int32)), .unset, .unset, .unset, .unset, .unset, .unset, .unset, .unset] [(.int p1)])) rfl (hb hby at_19) _ ?_
      show Steps p.tables e below (s₁.setTop (mkF m 21 #[.val (.int p0), .val (.int p1), .val (.long q2), .second, .val (.long q3), .second, .val (.int (1 : Int32)), .unset, .unset, .unset, .unset, .unset, .unset, .unset, .unset] [(.int (2147483647 : Int32)), (.int p1)])) t
      refine XS.iand X0.here hx rfl (hb hby at_21) rfl ?_
      show Steps p.tables e below (s₁.setTop (mkF m 22 #[.val (.int p0), .val (.int p1), .val (.long q2), .second, .val (.long q3), .second, .val (.int (1 : Int32)), .unset, .unset, .unset, .unset, .unset, .unset, .unset, .unset] [(.int (p1 &&& (2147483647 : Int32)))])) t
      refine XS.sipush X0.here hx rfl (hb hby at_22) ?_
      show Steps p.tables e below (s₁.setTop (mkF m 25 #[.val (.int p0), .val (.int p1), .val (.long q2), .second, .val (.long q3), .second, .val (.int (1 : Int32)), .unset, .unset, .unset, .unset, .unset, .unset, .unset, .unset] [(.int (129 : Int32)), (.int (p1 &&& (2147483647 : Int32)))])) t
      refine Jvm.RoadKit.iremM (g := (mkF m 25 #[.val (.int p0), .val (.int p1), .val (.long q2), .second, .val (.long q3), .second, .val (.int (1 : Int32)), .unset, .unset, .unset, .unset, .unset, .unset, .unset, .unset] [(.int (129 : Int32)), (.int (p1 &&& (2147483647 : Int32)))])) X0 hx rfl (hb hby at_25) rfl (by decide) ?_
      show Steps p.tables e below (s₁.setTop (mkF m 26 #[.val (.int p0), .val (.int p1), .val (.long q2), .second, .val (.long q3), .second, .val (.int (1 : Int32)), .unset, .unset, .unset, .unset, .unset, .unset, .unset, .unset] [(.int (own_P p1))])) t
      refine XS.istore X0.here hx rfl (hb hby at_26) rfl (l' := #[.val (.int p0), .val (.int p1), .val (.long q2), .second, .val (.long q3), .second, .val (.int (1 : Int32)), .val (.int (own_P p1)), .unset, .unset, .unset, .unset, .unset, .unset, .unset]) rfl ?_
      show Steps p.tables e below (s₁.setTop (mkF m 28 #[.val (.int p0), .val (.int p1), .val (.long q2), .second, .val (.long q3), .second, .val (.int (1 : Int32)), .val (.int (own_P p1)), .unset, .unset, .unset, .unset, .unset, .unset, .unset] [])) t
      refine XS.bipush X0.here hx rfl (hb hby at_28) ?_
      exact kt
    obtain ⟨T17, h17, k17, X17, e17, E17, A17, P17, st17⟩ := newPE X0 hx hZ (own_wd hw 1 rfl) e0 (g := (mkF m 30 #[.val (.int p0), .val (.int p1), .val (.long q2), .second, .val (.long q3), .second, .val (.int (1 : Int32)), .val (.int (own_P p1)), .unset, .unset, .unset, .unset, .unset, .unset, .unset] [(.int (16 : Int32))])) rfl (hb hby at_30) rfl (by decide) (cap := 16) (by decide) (by decide) (by decide) (by decide) (ad := "[B") (by decide)
    obtain ⟨b17, g17⟩ : ∃ z, z = h0.size := ⟨_, rfl⟩
    rw [← g17] at A17 P17 st17
    have sz_b17 : h0.size ≤ b17 := Nat.le_trans (Keep.refl h0 []).1 (Nat.le_of_eq g17.symm)
    have gn_b17 : n0 ≤ b17 := Nat.le_trans Z0 sz_b17
    have KC17 : Keep h0 h17 [] := (Keep.refl h0 []).ext E17
    have O17 : OBs Z h17 b17 (List.replicate 16 (0 : Int32)) := ⟨k17, (Arv.new A17 (by decide)).pad (pad_rep [] (.int (0 : Int32)) 16)⟩
    refine OGo.step st17 ?_
    show OGo _ _ _ _ _ _ _ (T17.setTop (mkF m 32 #[.val (.int p0), .val (.int p1), .val (.long q2), .second, .val (.long q3), .second, .val (.int (1 : Int32)), .val (.int (own_P p1)), .unset, .unset, .unset, .unset, .unset, .unset, .unset] [(.ref b17)]))
    refine OGo.step (F' := T17.setTop (mkF m 38 #[.val (.int p0), .val (.int p1), .val (.long q2), .second, .val (.long q3), .second, .val (.int (1 : Int32)), .val (.int (own_P p1)), .val (.ref b17), .unset, .unset, .unset, .unset, .unset, .unset] [(.long q2), (.int (0 : Int32)), (.ref b17)])) (fun t kt => ?_) ?_
    · show Steps p.tables e below (T17.setTop (mkF m 32 #[.val (.int p0), .val (.int p1), .val (.long q2), .second, .val (.long q3), .second, .val (.int (1 : Int32)), .val (.int (own_P p1)), .unset, .unset, .unset, .unset, .unset, .unset, .unset] [(.ref b17)])) t
      refine XS.astore X17.here hx rfl (hb hby at_32) rfl rfl (l' := #[.val (.int p0), .val (.int p1), .val (.long q2), .second, .val (.long q3), .second, .val (.int (1 : Int32)), .val (.int (own_P p1)), .val (.ref b17), .unset, .unset, .unset, .unset, .unset, .unset]) rfl ?_
      show Steps p.tables e below (T17.setTop (mkF m 34 #[.val (.int p0), .val (.int p1), .val (.long q2), .second, .val (.long q3), .second, .val (.int (1 : Int32)), .val (.int (own_P p1)), .val (.ref b17), .unset, .unset, .unset, .unset, .unset, .unset] [])) t
      refine XS.aload X17.here hx rfl (hb hby at_34) rfl rfl ?_
      show Steps p.tables e below (T17.setTop (mkF m 36 #[.val (.int p0), .val (.int p1), .val (.long q2), .second, .val (.long q3), .second, .val (.int (1 : Int32)), .val (.int (own_P p1)), .val (.ref b17), .unset, .unset, .unset, .unset, .unset, .unset] [(.ref b17)])) t
      refine XS.iconst X17.here hx rfl (hb hby at_36) ?_
      show Steps p.tables e below (T17.setTop (mkF m 37 #[.val (.int p0), .val (.int p1), .val (.long q2), .second, .val (.long q3), .second, .val (.int (1 : Int32)), .val (.int (own_P p1)), .val (.ref b17), .unset, .unset, .unset, .unset, .unset, .unset] [(.int (0 : Int32)), (.ref b17)])) t
      refine XS.lloadN X17.here hx rfl (hb hby at_37) rfl ?_
      exact kt
    refine OGo.callS X17 hx hZ (y := (⟨"com/example/veiled_alerts/veiledalerts/model/NetworkContainingPinLaw", "put8", "([BIJ)V"⟩ : MethodName)) hown (own_wd hw 66 rfl) (own_wd hw 67 rfl) (own_wd hw 4 rfl) (own_wd hw 68 rfl) (by decide) (rm11_0 l Z az hw [] b17 q2 (List.replicate 16 (0 : Int32)) h17 n0 (Nat.le_trans Z0 KC17.1) P17 O17 (by simp only [List.length_set, List.length_replicate]) gn_b17) (W := 0) (by decide) (by decide) (g := (mkF m 38 #[.val (.int p0), .val (.int p1), .val (.long q2), .second, .val (.long q3), .second, .val (.int (1 : Int32)), .val (.int (own_P p1)), .val (.ref b17), .unset, .unset, .unset, .unset, .unset, .unset] [(.long q2), (.int (0 : Int32)), (.ref b17)])) rfl (by rw [hml]; rfl) (argsL := [(.ref b17), (.int (0 : Int32)), (.long q2)]) (rest := []) (lenOf pd_0_7 rfl) rfl (by show 2 * 0 + _ ≤ _; exact Nat.le_of_eq rfl) (hb hby at_38) rfl e17 (by decide) (by decide) ?_
    rintro _ T18 L18 X18 ⟨rfl, Nq18, K18, P18_0, P18_1⟩
    have KC18 : Keep h0 T18.heap [] := KC17.trans K18 (allS (Or.inr sz_b17) all0)
    have N18 := Fr.app N0 Nq18
    show OGo _ _ _ _ _ _ _ (T18.setTop (mkF m 41 #[.val (.int p0), .val (.int p1), .val (.long q2), .second, .val (.long q3), .second, .val (.int (1 : Int32)), .val (.int (own_P p1)), .val (.ref b17), .unset, .unset, .unset, .unset, .unset, .unset] []))
    refine OGo.step (F' := T18.setTop (mkF m 47 #[.val (.int p0), .val (.int p1), .val (.long q2), .second, .val (.long q3), .second, .val (.int (1 : Int32)), .val (.int (own_P p1)), .val (.ref b17), .unset, .unset, .unset, .unset, .unset, .unset] [(.long q3), (.int (8 : Int32)), (.ref b17)])) (fun t kt => ?_) ?_
    · show Steps p.tables e below (T18.setTop (mkF m 41 #[.val (.int p0), .val (.int p1), .val (.long q2), .second, .val (.long q3), .second, .val (.int (1 : Int32)), .val (.int (own_P p1)), .val (.ref b17), .unset, .unset, .unset, .unset, .unset, .unset] [])) t
      refine XS.aload X18.here hx rfl (hb hby at_41) rfl rfl ?_
      show Steps p.tables e below (T18.setTop (mkF m 43 #[.val (.int p0), .val (.int p1), .val (.long q2), .second, .val (.long q3), .second, .val (.int (1 : Int32)), .val (.int (own_P p1)), .val (.ref b17), .unset, .unset, .unset, .unset, .unset, .unset] [(.ref b17)])) t
      refine XS.bipush X18.here hx rfl (hb hby at_43) ?_
      show Steps p.tables e below (T18.setTop (mkF m 45 #[.val (.int p0), .val (.int p1), .val (.long q2), .second, .val (.long q3), .second, .val (.int (1 : Int32)), .val (.int (own_P p1)), .val (.ref b17), .unset, .unset, .unset, .unset, .unset, .unset] [(.int (8 : Int32)), (.ref b17)])) t
      refine XS.lload X18.here hx rfl (hb hby at_45) rfl ?_
      exact kt
    refine OGo.callS X18 hx hZ (y := (⟨"com/example/veiled_alerts/veiledalerts/model/NetworkContainingPinLaw", "put8", "([BIJ)V"⟩ : MethodName)) hown (own_wd hw 66 rfl) (own_wd hw 67 rfl) (own_wd hw 4 rfl) (own_wd hw 68 rfl) (by decide) (rm11_8 l Z az hw [] b17 q3 (((((((((List.replicate 16 (0 : Int32)).set 0 (own_v0 q2)).set 1 (own_v1 q2)).set 2 (own_v2 q2)).set 3 (own_v3 q2)).set 4 (own_v4 q2)).set 5 (own_v5 q2)).set 6 (own_v6 q2)).set 7 (own_v7 q2)) T18.heap n0 (Nat.le_trans Z0 KC18.1) P18_0 P18_1 (by simp only [List.length_set, List.length_replicate]) gn_b17) (W := 0) (by decide) (by decide) (g := (mkF m 47 #[.val (.int p0), .val (.int p1), .val (.long q2), .second, .val (.long q3), .second, .val (.int (1 : Int32)), .val (.int (own_P p1)), .val (.ref b17), .unset, .unset, .unset, .unset, .unset, .unset] [(.long q3), (.int (8 : Int32)), (.ref b17)])) rfl (by rw [hml]; rfl) (argsL := [(.ref b17), (.int (8 : Int32)), (.long q3)]) (rest := []) (lenOf pd_0_7 rfl) rfl (by show 2 * 0 + _ ≤ _; exact Nat.le_of_eq rfl) (hb hby at_47) rfl rfl (by decide) (by decide) ?_
    rintro _ T19 L19 X19 ⟨rfl, Nq19, K19, P19_0, P19_1⟩
    have KC19 : Keep h0 T19.heap [] := KC18.trans K19 (allS (Or.inr sz_b17) all0)
    have N19 := Fr.app N18 Nq19
    show OGo _ _ _ _ _ _ _ (T19.setTop (mkF m 50 #[.val (.int p0), .val (.int p1), .val (.long q2), .second, .val (.long q3), .second, .val (.int (1 : Int32)), .val (.int (own_P p1)), .val (.ref b17), .unset, .unset, .unset, .unset, .unset, .unset] []))
    have O20 : OBs Z T19.heap b17 (own_xs q2 q3) := P19_1
    obtain ⟨T21, h21, X21, e21, E21, A21, D21, -, st21⟩ := newO X19 hx hZ hown (own_wd hw 6 rfl) (own_wd hw 7 rfl) (own_wd hw 8 rfl) rfl (g := (mkF m 50 #[.val (.int p0), .val (.int p1), .val (.long q2), .second, .val (.long q3), .second, .val (.int (1 : Int32)), .val (.int (own_P p1)), .val (.ref b17), .unset, .unset, .unset, .unset, .unset, .unset] [])) rfl (hb hby at_50) (by decide) (by decide)
    obtain ⟨b21, g21⟩ : ∃ z, z = T19.heap.size := ⟨_, rfl⟩
    rw [← g21] at A21 D21 st21
    have sz_b21 : h0.size ≤ b21 := Nat.le_trans KC19.1 (Nat.le_of_eq g21.symm)
    have gn_b21 : n0 ≤ b21 := Nat.le_trans Z0 sz_b21
    have KC21 : Keep h0 h21 [] := KC19.ext E21
    have F21_bytes : Fld Z h21 b21 "com/example/veiled_alerts/veiledalerts/model/IpAddress" "bytes" "[B" .null := D21 (Or.inr (own_wd hw 16 rfl)) (ty := (.array .byte)) (by decide)
    refine OGo.step st21 ?_
    show OGo _ _ _ _ _ _ _ (T21.setTop (mkF m 53 #[.val (.int p0), .val (.int p1), .val (.long q2), .second, .val (.long q3), .second, .val (.int (1 : Int32)), .val (.int (own_P p1)), .val (.ref b17), .unset, .unset, .unset, .unset, .unset, .unset] [(.ref b21)]))
    refine OGo.step (F' := T21.setTop (mkF m 56 #[.val (.int p0), .val (.int p1), .val (.long q2), .second, .val (.long q3), .second, .val (.int (1 : Int32)), .val (.int (own_P p1)), .val (.ref b17), .unset, .unset, .unset, .unset, .unset, .unset] [(.ref b17), (.ref b21), (.ref b21)])) (fun t kt => ?_) ?_
    · show Steps p.tables e below (T21.setTop (mkF m 53 #[.val (.int p0), .val (.int p1), .val (.long q2), .second, .val (.long q3), .second, .val (.int (1 : Int32)), .val (.int (own_P p1)), .val (.ref b17), .unset, .unset, .unset, .unset, .unset, .unset] [(.ref b21)])) t
      refine XS.dup X21.here hx rfl (hb hby at_53) rfl rfl ?_
      show Steps p.tables e below (T21.setTop (mkF m 54 #[.val (.int p0), .val (.int p1), .val (.long q2), .second, .val (.long q3), .second, .val (.int (1 : Int32)), .val (.int (own_P p1)), .val (.ref b17), .unset, .unset, .unset, .unset, .unset, .unset] [(.ref b21), (.ref b21)])) t
      refine XS.aload X21.here hx rfl (hb hby at_54) rfl rfl ?_
      exact kt
    refine OGo.callC X21 hx hZ (y := (⟨"com/example/veiled_alerts/veiledalerts/model/IpAddress", "<init>", "([B)V"⟩ : MethodName)) rfl hown (own_wd hw 9 rfl) (own_wd hw 10 rfl) (own_wd hw 8 rfl) (own_wd hw 11 rfl) (by decide) (rm2 l Z az hw [] b21 b17 .null h21 n0 (Nat.le_trans Z0 KC21.1) A21 F21_bytes gn_b21) (W := 1) (by decide) (by decide) (b := b21) (g := (mkF m 56 #[.val (.int p0), .val (.int p1), .val (.long q2), .second, .val (.long q3), .second, .val (.int (1 : Int32)), .val (.int (own_P p1)), .val (.ref b17), .unset, .unset, .unset, .unset, .unset, .unset] [(.ref b17), (.ref b21), (.ref b21)])) rfl (by rw [hml]; rfl) (argsL := [(.ref b17)]) (rest := [(.ref b21)]) (lenOf pd_0_1 rfl) rfl (by show 2 * 0 + _ ≤ _; exact Nat.le_of_eq rfl) (hb hby at_56) rfl e21 (by decide) (by decide) ?_
    rintro _ T22 L22 X22 ⟨rfl, Nq22, K22, P22_0, P22_1⟩
    have KC22 : Keep h0 T22.heap [] := KC21.trans K22 (allS (Or.inr sz_b21) all0)
    have N22 := Fr.app N19 Nq22
    show OGo _ _ _ _ _ _ _ (T22.setTop (mkF m 59 #[.val (.int p0), .val (.int p1), .val (.long q2), .second, .val (.long q3), .second, .val (.int (1 : Int32)), .val (.int (own_P p1)), .val (.ref b17), .unset, .unset, .unset, .unset, .unset, .unset] [(.ref b21)]))
    refine OGo.step (F' := T22.setTop (mkF m 61 #[.val (.int p0), .val (.int p1), .val (.long q2), .second, .val (.long q3), .second, .val (.int (1 : Int32)), .val (.int (own_P p1)), .val (.ref b17), .unset, .unset, .unset, .unset, .unset, .unset] [(.int (own_P p1)), (.ref b21)])) (fun t kt => ?_) ?_
    · show Steps p.tables e below (T22.setTop (mkF m 59 #[.val (.int p0), .val (.int p1), .val (.long q2), .second, .val (.long q3), .second, .val (.int (1 : Int32)), .val (.int (own_P p1)), .val (.ref b17), .unset, .unset, .unset, .unset, .unset, .unset] [(.ref b21)])) t
      refine XS.iload X22.here hx rfl (hb hby at_59) rfl ?_
      exact kt
    refine OGo.callS X22 hx hZ (y := (⟨"com/example/veiled_alerts/veiledalerts/model/Network", "containing", "(Lcom/example/veiled_alerts/veiledalerts/model/IpAddress;I)Lcom/example/veiled_alerts/veiledalerts/model/Network;"⟩ : MethodName)) hown (own_wd hw 17 rfl) (own_wd hw 18 rfl) (own_wd hw 19 rfl) (own_wd hw 20 rfl) (by decide) (rm4 l Z az hw [] b21 (own_P p1) b17 (own_xs q2 q3) T22.heap n0 (Nat.le_trans Z0 KC22.1) P22_0 P22_1 ((P19_0.ext E21).keep K22) ((O20.ext E21).keep K22 (ninS (Nat.ne_of_lt (Nat.lt_of_lt_of_le O20.lt (Nat.le_of_eq g21.symm))) nin0)) (Or.inr rfl) (own_Pr _).1 (own_PB _ _ _)) (W := 0) (by decide) (by decide) (g := (mkF m 61 #[.val (.int p0), .val (.int p1), .val (.long q2), .second, .val (.long q3), .second, .val (.int (1 : Int32)), .val (.int (own_P p1)), .val (.ref b17), .unset, .unset, .unset, .unset, .unset, .unset] [(.int (own_P p1)), (.ref b21)])) rfl (by rw [hml]; rfl) (argsL := [(.ref b21), (.int (own_P p1))]) (rest := []) (lenOf pd_0_2 rfl) rfl (by show 2 * 0 + _ ≤ _; exact Nat.le_of_eq rfl) (hb hby at_61) rfl rfl (by decide) (by decide) ?_
    rintro _ T23 L23 X23 ⟨b23_r, b23_ip, b23_t, rfl, Nq23, K23, sz_b23_r, sz_b23_ip, sz_b23_t, P23_0, P23_1, P23_2, P23_3, P23_4, P23_5, P23_6⟩
    have KC23 : Keep h0 T23.heap [] := KC22.trans K23 all0
    have szo_b23_r := sz_b23_r
    replace sz_b23_r : h0.size ≤ b23_r := Nat.le_trans KC22.1 sz_b23_r
    have gn_b23_r : n0 ≤ b23_r := Nat.le_trans Z0 sz_b23_r
    have szo_b23_ip := sz_b23_ip
    replace sz_b23_ip : h0.size ≤ b23_ip := Nat.le_trans KC22.1 sz_b23_ip
    have gn_b23_ip : n0 ≤ b23_ip := Nat.le_trans Z0 sz_b23_ip
    have szo_b23_t := sz_b23_t
    replace sz_b23_t : h0.size ≤ b23_t := Nat.le_trans KC22.1 sz_b23_t
    have gn_b23_t : n0 ≤ b23_t := Nat.le_trans Z0 sz_b23_t
    have N23 := Fr.app N22 Nq23
    show OGo _ _ _ _ _ _ _ (T23.setTop (mkF m 64 #[.val (.int p0), .val (.int p1), .val (.long q2), .second, .val (.long q3), .second, .val (.int (1 : Int32)), .val (.int (own_P p1)), .val (.ref b17), .unset, .unset, .unset, .unset, .unset, .unset] [(.ref b23_r)]))
    refine OGo.step (F' := T23.setTop (mkF m 69 #[.val (.int p0), .val (.int p1), .val (.long q2), .second, .val (.long q3), .second, .val (.int (1 : Int32)), .val (.int (own_P p1)), .val (.ref b17), .val (.ref b23_r), .unset, .unset, .unset, .unset, .unset] [(.long (0 : Int64)), (.ref b23_r)])) (fun t kt => ?_) ?_
    · show Steps p.tables e below (T23.setTop (mkF m 64 #[.val (.int p0), .val (.int p1), .val (.long q2), .second, .val (.long q3), .second, .val (.int (1 : Int32)), .val (.int (own_P p1)), .val (.ref b17), .unset, .unset, .unset, .unset, .unset, .unset] [(.ref b23_r)])) t
      refine XS.astore X23.here hx rfl (hb hby at_64) rfl rfl (l' := #[.val (.int p0), .val (.int p1), .val (.long q2), .second, .val (.long q3), .second, .val (.int (1 : Int32)), .val (.int (own_P p1)), .val (.ref b17), .val (.ref b23_r), .unset, .unset, .unset, .unset, .unset]) rfl ?_
      show Steps p.tables e below (T23.setTop (mkF m 66 #[.val (.int p0), .val (.int p1), .val (.long q2), .second, .val (.long q3), .second, .val (.int (1 : Int32)), .val (.int (own_P p1)), .val (.ref b17), .val (.ref b23_r), .unset, .unset, .unset, .unset, .unset] [])) t
      refine XS.aload X23.here hx rfl (hb hby at_66) rfl rfl ?_
      show Steps p.tables e below (T23.setTop (mkF m 68 #[.val (.int p0), .val (.int p1), .val (.long q2), .second, .val (.long q3), .second, .val (.int (1 : Int32)), .val (.int (own_P p1)), .val (.ref b17), .val (.ref b23_r), .unset, .unset, .unset, .unset, .unset] [(.ref b23_r)])) t
      refine XS.lconst X23.here hx rfl (hb hby at_68) ?_
      exact kt
    refine OGo.callV X23 hx hZ (y := (⟨"com/example/veiled_alerts/veiledalerts/model/Network", "address", "(J)Lcom/example/veiled_alerts/veiledalerts/model/IpAddress;"⟩ : MethodName)) (z := (⟨"com/example/veiled_alerts/veiledalerts/model/Network", "address", "(J)Lcom/example/veiled_alerts/veiledalerts/model/IpAddress;"⟩ : MethodName)) hown (own_wd hw 47 rfl) (own_wd hw 48 rfl) (notFace_of_selects (args := #[]) (mvT hZ (own_wd hw 50 rfl))) (own_wd hw 50 rfl) (own_wd hw 49 rfl) (own_wd hw 19 rfl) (own_wd hw 51 rfl) (by decide) (rm7 l Z az hw [] b23_r b23_ip b23_t (own_clr (own_P p1) (own_xs q2 q3)) (own_P p1) T23.heap n0 (Nat.le_trans Z0 KC23.1) P23_0 P23_1 P23_3 P23_4 P23_5 P23_6 (Or.inr (own_clrl _ _)) P23_2) (W := 0) (by decide) (by decide) P23_0 (g := (mkF m 69 #[.val (.int p0), .val (.int p1), .val (.long q2), .second, .val (.long q3), .second, .val (.int (1 : Int32)), .val (.int (own_P p1)), .val (.ref b17), .val (.ref b23_r), .unset, .unset, .unset, .unset, .unset] [(.long (0 : Int64)), (.ref b23_r)])) rfl (by rw [hml]; rfl) (argsL := [(.long (0 : Int64))]) (rest := []) (lenOf pd_0_3 rfl) rfl (by show 2 * 0 + _ ≤ _; exact Nat.le_of_eq rfl) (hb hby at_69) rfl rfl (by decide) (by decide) ?_
    rintro _ T24 L24 X24 ⟨b24_r, b24_t, rfl, Nq24, K24, sz_b24_r, sz_b24_t, P24_0, P24_1, P24_2, P24_3⟩
    have KC24 : Keep h0 T24.heap [] := KC23.trans K24 all0
    have szo_b24_r := sz_b24_r
    replace sz_b24_r : h0.size ≤ b24_r := Nat.le_trans KC23.1 sz_b24_r
    have gn_b24_r : n0 ≤ b24_r := Nat.le_trans Z0 sz_b24_r
    have szo_b24_t := sz_b24_t
    replace sz_b24_t : h0.size ≤ b24_t := Nat.le_trans KC23.1 sz_b24_t
    have gn_b24_t : n0 ≤ b24_t := Nat.le_trans Z0 sz_b24_t
    have N24 := Fr.app N23 Nq24
    show OGo _ _ _ _ _ _ _ (T24.setTop (mkF m 72 #[.val (.int p0), .val (.int p1), .val (.long q2), .second, .val (.long q3), .second, .val (.int (1 : Int32)), .val (.int (own_P p1)), .val (.ref b17), .val (.ref b23_r), .unset, .unset, .unset, .unset, .unset] [(.ref b24_r)]))
    refine OGo.callV X24 hx hZ (y := (⟨"com/example/veiled_alerts/veiledalerts/model/IpAddress", "bytes", "()[B"⟩ : MethodName)) (z := (⟨"com/example/veiled_alerts/veiledalerts/model/IpAddress", "bytes", "()[B"⟩ : MethodName)) hown (own_wd hw 57 rfl) (own_wd hw 22 rfl) (notFace_of_selects (args := #[]) (mvT hZ (own_wd hw 24 rfl))) (own_wd hw 24 rfl) (own_wd hw 23 rfl) (own_wd hw 8 rfl) (own_wd hw 25 rfl) (by decide) (rm5 l Z az hw [] b24_r b24_t T24.heap n0 (Nat.le_trans Z0 KC24.1) P24_1) (W := 0) (by decide) (by decide) P24_0 (g := (mkF m 72 #[.val (.int p0), .val (.int p1), .val (.long q2), .second, .val (.long q3), .second, .val (.int (1 : Int32)), .val (.int (own_P p1)), .val (.ref b17), .val (.ref b23_r), .unset, .unset, .unset, .unset, .unset] [(.ref b24_r)])) rfl (by rw [hml]; rfl) (argsL := []) (rest := []) (lenOf pd_0_4 rfl) rfl (by show 2 * 0 + _ ≤ _; exact Nat.le_of_eq rfl) (hb hby at_72) rfl rfl (by decide) (by decide) ?_
    rintro _ T25 L25 X25 ⟨hv25, Nq25, e25⟩
    have N25 := Fr.app N24 Nq25
    rw [show (f5 b24_t) = b24_t from rfl] at hv25
    subst hv25
    show OGo _ _ _ _ _ _ _ (T25.setTop (mkF m 75 #[.val (.int p0), .val (.int p1), .val (.long q2), .second, .val (.long q3), .second, .val (.int (1 : Int32)), .val (.int (own_P p1)), .val (.ref b17), .val (.ref b23_r), .unset, .unset, .unset, .unset, .unset] [(.ref b24_t)]))
    refine OGo.step (F' := T25.setTop (mkF m 79 #[.val (.int p0), .val (.int p1), .val (.long q2), .second, .val (.long q3), .second, .val (.int (1 : Int32)), .val (.int (own_P p1)), .val (.ref b17), .val (.ref b23_r), .val (.ref b24_t), .unset, .unset, .unset, .unset] [(.int (own_P p1))])) (fun t kt => ?_) ?_
    · show Steps p.tables e below (T25.setTop (mkF m 75 #[.val (.int p0), .val (.int p1), .val (.long q2), .second, .val (.long q3), .second, .val (.int (1 : Int32)), .val (.int (own_P p1)), .val (.ref b17), .val (.ref b23_r), .unset, .unset, .unset, .unset, .unset] [(.ref b24_t)])) t
      refine XS.astore X25.here hx rfl (hb hby at_75) rfl rfl (l' := #[.val (.int p0), .val (.int p1), .val (.long q2), .second, .val (.long q3), .second, .val (.int (1 : Int32)), .val (.int (own_P p1)), .val (.ref b17), .val (.ref b23_r), .val (.ref b24_t), .unset, .unset, .unset, .unset]) rfl ?_
      show Steps p.tables e below (T25.setTop (mkF m 77 #[.val (.int p0), .val (.int p1), .val (.long q2), .second, .val (.long q3), .second, .val (.int (1 : Int32)), .val (.int (own_P p1)), .val (.ref b17), .val (.ref b23_r), .val (.ref b24_t), .unset, .unset, .unset, .unset] [])) t
      refine XS.iload X25.here hx rfl (hb hby at_77) rfl ?_
      exact kt
    by_cases hc79 : (own_P p1) = (0 : Int32)
    · refine OGo.step (F' := T25.setTop (mkF m 82 #[.val (.int p0), .val (.int p1), .val (.long q2), .second, .val (.long q3), .second, .val (.int (1 : Int32)), .val (.int (own_P p1)), .val (.ref b17), .val (.ref b23_r), .val (.ref b24_t), .unset, .unset, .unset, .unset] [])) (fun t kt => ?_) ?_
      · show Steps p.tables e below (T25.setTop (mkF m 79 #[.val (.int p0), .val (.int p1), .val (.long q2), .second, .val (.long q3), .second, .val (.int (1 : Int32)), .val (.int (own_P p1)), .val (.ref b17), .val (.ref b23_r), .val (.ref b24_t), .unset, .unset, .unset, .unset] [(.int (own_P p1))])) t
        refine XS.ifNo X25.here hx rfl (hb hby at_79) rfl ((if0 _ _).trans (teq hc79).2) ?_
        exact kt
      refine OGo.step (F' := T25.setTop (mkF m 135 #[.val (.int p0), .val (.int p1), .val (.long q2), .second, .val (.long q3), .second, .val (.int (1 : Int32)), .val (.int (own_P p1)), .val (.ref b17), .val (.ref b23_r), .val (.ref b24_t), .val (.long (0 : Int64)), .second, .val (.long (0 : Int64)), .second] [(.ref b23_r)])) (fun t kt => ?_) ?_
      · show Steps p.tables e below (T25.setTop (mkF m 82 #[.val (.int p0), .val (.int p1), .val (.long q2), .second, .val (.long q3), .second, .val (.int (1 : Int32)), .val (.int (own_P p1)), .val (.ref b17), .val (.ref b23_r), .val (.ref b24_t), .unset, .unset, .unset, .unset] [])) t
        refine XS.lconst X25.here hx rfl (hb hby at_82) ?_
        show Steps p.tables e below (T25.setTop (mkF m 83 #[.val (.int p0), .val (.int p1), .val (.long q2), .second, .val (.long q3), .second, .val (.int (1 : Int32)), .val (.int (own_P p1)), .val (.ref b17), .val (.ref b23_r), .val (.ref b24_t), .unset, .unset, .unset, .unset] [(.long (0 : Int64))])) t
        refine XS.goto X25.here hx rfl (pc0 := 83) (pc' := 108) rfl (hb hby at_83) (by decide) (by decide) ?_
        show Steps p.tables e below (T25.setTop (mkF m 108 #[.val (.int p0), .val (.int p1), .val (.long q2), .second, .val (.long q3), .second, .val (.int (1 : Int32)), .val (.int (own_P p1)), .val (.ref b17), .val (.ref b23_r), .val (.ref b24_t), .unset, .unset, .unset, .unset] [(.long (0 : Int64))])) t
        refine XS.lstore X25.here hx rfl (hb hby at_108) rfl (l' := #[.val (.int p0), .val (.int p1), .val (.long q2), .second, .val (.long q3), .second, .val (.int (1 : Int32)), .val (.int (own_P p1)), .val (.ref b17), .val (.ref b23_r), .val (.ref b24_t), .val (.long (0 : Int64)), .second, .unset, .unset]) rfl ?_
        show Steps p.tables e below (T25.setTop (mkF m 110 #[.val (.int p0), .val (.int p1), .val (.long q2), .second, .val (.long q3), .second, .val (.int (1 : Int32)), .val (.int (own_P p1)), .val (.ref b17), .val (.ref b23_r), .val (.ref b24_t), .val (.long (0 : Int64)), .second, .unset, .unset] [])) t
        refine XS.iload X25.here hx rfl (hb hby at_110) rfl ?_
        show Steps p.tables e below (T25.setTop (mkF m 112 #[.val (.int p0), .val (.int p1), .val (.long q2), .second, .val (.long q3), .second, .val (.int (1 : Int32)), .val (.int (own_P p1)), .val (.ref b17), .val (.ref b23_r), .val (.ref b24_t), .val (.long (0 : Int64)), .second, .unset, .unset] [(.int (own_P p1))])) t
        refine XS.bipush X25.here hx rfl (hb hby at_112) ?_
        show Steps p.tables e below (T25.setTop (mkF m 114 #[.val (.int p0), .val (.int p1), .val (.long q2), .second, .val (.long q3), .second, .val (.int (1 : Int32)), .val (.int (own_P p1)), .val (.ref b17), .val (.ref b23_r), .val (.ref b24_t), .val (.long (0 : Int64)), .second, .unset, .unset] [(.int (64 : Int32)), (.int (own_P p1))])) t
        refine XS.icmpNo X25.here hx rfl (hb hby at_114) rfl (flt (own_n64 hc79)).2.2.1 ?_
        show Steps p.tables e below (T25.setTop (mkF m 117 #[.val (.int p0), .val (.int p1), .val (.long q2), .second, .val (.long q3), .second, .val (.int (1 : Int32)), .val (.int (own_P p1)), .val (.ref b17), .val (.ref b23_r), .val (.ref b24_t), .val (.long (0 : Int64)), .second, .unset, .unset] [])) t
        refine XS.lconst X25.here hx rfl (hb hby at_117) ?_
        show Steps p.tables e below (T25.setTop (mkF m 118 #[.val (.int p0), .val (.int p1), .val (.long q2), .second, .val (.long q3), .second, .val (.int (1 : Int32)), .val (.int (own_P p1)), .val (.ref b17), .val (.ref b23_r), .val (.ref b24_t), .val (.long (0 : Int64)), .second, .unset, .unset] [(.long (0 : Int64))])) t
        refine XS.goto X25.here hx rfl (pc0 := 118) (pc' := 131) rfl (hb hby at_118) (by decide) (by decide) ?_
        show Steps p.tables e below (T25.setTop (mkF m 131 #[.val (.int p0), .val (.int p1), .val (.long q2), .second, .val (.long q3), .second, .val (.int (1 : Int32)), .val (.int (own_P p1)), .val (.ref b17), .val (.ref b23_r), .val (.ref b24_t), .val (.long (0 : Int64)), .second, .unset, .unset] [(.long (0 : Int64))])) t
        refine XS.lstore X25.here hx rfl (hb hby at_131) rfl (l' := #[.val (.int p0), .val (.int p1), .val (.long q2), .second, .val (.long q3), .second, .val (.int (1 : Int32)), .val (.int (own_P p1)), .val (.ref b17), .val (.ref b23_r), .val (.ref b24_t), .val (.long (0 : Int64)), .second, .val (.long (0 : Int64)), .second]) rfl ?_
        show Steps p.tables e below (T25.setTop (mkF m 133 #[.val (.int p0), .val (.int p1), .val (.long q2), .second, .val (.long q3), .second, .val (.int (1 : Int32)), .val (.int (own_P p1)), .val (.ref b17), .val (.ref b23_r), .val (.ref b24_t), .val (.long (0 : Int64)), .second, .val (.long (0 : Int64)), .second] [])) t
        refine XS.aload X25.here hx rfl (hb hby at_133) rfl rfl ?_
        exact kt
      refine OGo.callV X25 hx hZ (y := (⟨"com/example/veiled_alerts/veiledalerts/model/Network", "prefixLength", "()I"⟩ : MethodName)) (z := (⟨"com/example/veiled_alerts/veiledalerts/model/Network", "prefixLength", "()I"⟩ : MethodName)) hown (own_wd hw 58 rfl) (own_wd hw 59 rfl) (notFace_of_selects (args := #[]) (mvT hZ (own_wd hw 61 rfl))) (own_wd hw 61 rfl) (own_wd hw 60 rfl) (own_wd hw 19 rfl) (own_wd hw 62 rfl) (by decide) (rm9 l Z az hw [] b23_r (own_P p1) T24.heap n0 (Nat.le_trans Z0 KC24.1) (P23_2.keep K24 nin0)) (W := 0) (by decide) (by decide) (P23_0.keep K24) (g := (mkF m 135 #[.val (.int p0), .val (.int p1), .val (.long q2), .second, .val (.long q3), .second, .val (.int (1 : Int32)), .val (.int (own_P p1)), .val (.ref b17), .val (.ref b23_r), .val (.ref b24_t), .val (.long (0 : Int64)), .second, .val (.long (0 : Int64)), .second] [(.ref b23_r)])) rfl (by rw [hml]; rfl) (argsL := []) (rest := []) (lenOf pd_0_5 rfl) rfl (by show 2 * 0 + _ ≤ _; exact Nat.le_of_eq rfl) (hb hby at_135) rfl e25 (by decide) (by decide) ?_
      rintro _ T26 L26 X26 ⟨hv26, Nq26, e26⟩
      have N26 := Fr.app N25 Nq26
      rw [show (f9 (own_P p1)) = (own_P p1) from rfl] at hv26
      subst hv26
      show OGo _ _ _ _ _ _ _ (T26.setTop (mkF m 138 #[.val (.int p0), .val (.int p1), .val (.long q2), .second, .val (.long q3), .second, .val (.int (1 : Int32)), .val (.int (own_P p1)), .val (.ref b17), .val (.ref b23_r), .val (.ref b24_t), .val (.long (0 : Int64)), .second, .val (.long (0 : Int64)), .second] [(.int (own_P p1))]))
      refine OGo.step (F' := T26.setTop (mkF m 145 #[.val (.int p0), .val (.int p1), .val (.long q2), .second, .val (.long q3), .second, .val (.int (1 : Int32)), .val (.int (own_P p1)), .val (.ref b17), .val (.ref b23_r), .val (.ref b24_t), .val (.long (0 : Int64)), .second, .val (.long (0 : Int64)), .second] [(.ref b24_t)])) (fun t kt => ?_) ?_
      · show Steps p.tables e below (T26.setTop (mkF m 138 #[.val (.int p0), .val (.int p1), .val (.long q2), .second, .val (.long q3), .second, .val (.int (1 : Int32)), .val (.int (own_P p1)), .val (.ref b17), .val (.ref b23_r), .val (.ref b24_t), .val (.long (0 : Int64)), .second, .val (.long (0 : Int64)), .second] [(.int (own_P p1))])) t
        refine XS.iload X26.here hx rfl (hb hby at_138) rfl ?_
        show Steps p.tables e below (T26.setTop (mkF m 140 #[.val (.int p0), .val (.int p1), .val (.long q2), .second, .val (.long q3), .second, .val (.int (1 : Int32)), .val (.int (own_P p1)), .val (.ref b17), .val (.ref b23_r), .val (.ref b24_t), .val (.long (0 : Int64)), .second, .val (.long (0 : Int64)), .second] [(.int (own_P p1)), (.int (own_P p1))])) t
        refine XS.icmpNo X26.here hx rfl (hb hby at_140) rfl (teq (rfl : (own_P p1) = (own_P p1))).2 ?_
        show Steps p.tables e below (T26.setTop (mkF m 143 #[.val (.int p0), .val (.int p1), .val (.long q2), .second, .val (.long q3), .second, .val (.int (1 : Int32)), .val (.int (own_P p1)), .val (.ref b17), .val (.ref b23_r), .val (.ref b24_t), .val (.long (0 : Int64)), .second, .val (.long (0 : Int64)), .second] [])) t
        refine XS.aload X26.here hx rfl (hb hby at_143) rfl rfl ?_
        exact kt
      obtain ⟨kk27, cl27, Ar27, qz27, S27, N27a, H27, G27⟩ := id (P24_3)
      refine OGo.step (F' := T26.setTop (mkF m 146 #[.val (.int p0), .val (.int p1), .val (.long q2), .second, .val (.long q3), .second, .val (.int (1 : Int32)), .val (.int (own_P p1)), .val (.ref b17), .val (.ref b23_r), .val (.ref b24_t), .val (.long (0 : Int64)), .second, .val (.long (0 : Int64)), .second] [(.int (Int32.ofNat (own_clr (own_P p1) (own_xs q2 q3)).length))])) (fun t kt => ?_) ?_
      · show Steps p.tables e below (T26.setTop (mkF m 145 #[.val (.int p0), .val (.int p1), .val (.long q2), .second, .val (.long q3), .second, .val (.int (1 : Int32)), .val (.int (own_P p1)), .val (.ref b17), .val (.ref b23_r), .val (.ref b24_t), .val (.long (0 : Int64)), .second, .val (.long (0 : Int64)), .second] [(.ref b24_t)])) t
        refine X26.arraylength hx (by rw [e26]; exact Ar27.1) (State.isArrayOf_alike hZ.alike Ar27.2.1) (g := (mkF m 145 #[.val (.int p0), .val (.int p1), .val (.long q2), .second, .val (.long q3), .second, .val (.int (1 : Int32)), .val (.int (own_P p1)), .val (.ref b17), .val (.ref b23_r), .val (.ref b24_t), .val (.long (0 : Int64)), .second, .val (.long (0 : Int64)), .second] [(.ref b24_t)])) rfl rfl (hb hby at_145) _ ?_
        rw [len_of S27 N27a]
        exact kt
      refine OGo.step (F' := T26.setTop (mkF m 154 #[.val (.int p0), .val (.int p1), .val (.long q2), .second, .val (.long q3), .second, .val (.int (1 : Int32)), .val (.int (own_P p1)), .val (.ref b17), .val (.ref b23_r), .val (.ref b24_t), .val (.long (0 : Int64)), .second, .val (.long (0 : Int64)), .second] [(.int (0 : Int32)), (.ref b24_t)])) (fun t kt => ?_) ?_
      · show Steps p.tables e below (T26.setTop (mkF m 146 #[.val (.int p0), .val (.int p1), .val (.long q2), .second, .val (.long q3), .second, .val (.int (1 : Int32)), .val (.int (own_P p1)), .val (.ref b17), .val (.ref b23_r), .val (.ref b24_t), .val (.long (0 : Int64)), .second, .val (.long (0 : Int64)), .second] [(.int (Int32.ofNat (own_clr (own_P p1) (own_xs q2 q3)).length))])) t
        refine XS.bipush X26.here hx rfl (hb hby at_146) ?_
        show Steps p.tables e below (T26.setTop (mkF m 148 #[.val (.int p0), .val (.int p1), .val (.long q2), .second, .val (.long q3), .second, .val (.int (1 : Int32)), .val (.int (own_P p1)), .val (.ref b17), .val (.ref b23_r), .val (.ref b24_t), .val (.long (0 : Int64)), .second, .val (.long (0 : Int64)), .second] [(.int (16 : Int32)), (.int (Int32.ofNat (own_clr (own_P p1) (own_xs q2 q3)).length))])) t
        refine XS.icmpNo X26.here hx rfl (hb hby at_148) rfl (teq (own_l16 _ _ _)).2 ?_
        show Steps p.tables e below (T26.setTop (mkF m 151 #[.val (.int p0), .val (.int p1), .val (.long q2), .second, .val (.long q3), .second, .val (.int (1 : Int32)), .val (.int (own_P p1)), .val (.ref b17), .val (.ref b23_r), .val (.ref b24_t), .val (.long (0 : Int64)), .second, .val (.long (0 : Int64)), .second] [])) t
        refine XS.aload X26.here hx rfl (hb hby at_151) rfl rfl ?_
        show Steps p.tables e below (T26.setTop (mkF m 153 #[.val (.int p0), .val (.int p1), .val (.long q2), .second, .val (.long q3), .second, .val (.int (1 : Int32)), .val (.int (own_P p1)), .val (.ref b17), .val (.ref b23_r), .val (.ref b24_t), .val (.long (0 : Int64)), .second, .val (.long (0 : Int64)), .second] [(.ref b24_t)])) t
        refine XS.iconst X26.here hx rfl (hb hby at_153) ?_
        exact kt
      refine OGo.callS X26 hx hZ (y := (⟨"com/example/veiled_alerts/veiledalerts/model/NetworkContainingPinLaw", "get8", "([BI)J"⟩ : MethodName)) hown (own_wd hw 70 rfl) (own_wd hw 71 rfl) (own_wd hw 4 rfl) (own_wd hw 72 rfl) (by decide) (rm12_0 l Z az hw [] b24_t (own_clr (own_P p1) (own_xs q2 q3)) T24.heap n0 (Nat.le_trans Z0 KC24.1) P24_3 (own_clrl _ _)) (W := 0) (by decide) (by decide) (g := (mkF m 154 #[.val (.int p0), .val (.int p1), .val (.long q2), .second, .val (.long q3), .second, .val (.int (1 : Int32)), .val (.int (own_P p1)), .val (.ref b17), .val (.ref b23_r), .val (.ref b24_t), .val (.long (0 : Int64)), .second, .val (.long (0 : Int64)), .second] [(.int (0 : Int32)), (.ref b24_t)])) rfl (by rw [hml]; rfl) (argsL := [(.ref b24_t), (.int (0 : Int32))]) (rest := []) (lenOf pd_0_8 rfl) rfl (by show 2 * 0 + _ ≤ _; exact Nat.le_of_eq rfl) (hb hby at_154) rfl e26 (by decide) (by decide) ?_
      rintro _ T28 L28 X28 ⟨rfl, Nq28, e28⟩
      have N28 := Fr.app N26 Nq28
      show OGo _ _ _ _ _ _ _ (T28.setTop (mkF m 157 #[.val (.int p0), .val (.int p1), .val (.long q2), .second, .val (.long q3), .second, .val (.int (1 : Int32)), .val (.int (own_P p1)), .val (.ref b17), .val (.ref b23_r), .val (.ref b24_t), .val (.long (0 : Int64)), .second, .val (.long (0 : Int64)), .second] [(.long (f12_0 (own_clr (own_P p1) (own_xs q2 q3))))]))
      refine OGo.step (F' := T28.setTop (mkF m 169 #[.val (.int p0), .val (.int p1), .val (.long q2), .second, .val (.long q3), .second, .val (.int (1 : Int32)), .val (.int (own_P p1)), .val (.ref b17), .val (.ref b23_r), .val (.ref b24_t), .val (.long (0 : Int64)), .second, .val (.long (0 : Int64)), .second] [(.int (8 : Int32)), (.ref b24_t)])) (fun t kt => ?_) ?_
      · show Steps p.tables e below (T28.setTop (mkF m 157 #[.val (.int p0), .val (.int p1), .val (.long q2), .second, .val (.long q3), .second, .val (.int (1 : Int32)), .val (.int (own_P p1)), .val (.ref b17), .val (.ref b23_r), .val (.ref b24_t), .val (.long (0 : Int64)), .second, .val (.long (0 : Int64)), .second] [(.long (f12_0 (own_clr (own_P p1) (own_xs q2 q3))))])) t
        refine XS.lloadN X28.here hx rfl (hb hby at_157) rfl ?_
        show Steps p.tables e below (T28.setTop (mkF m 158 #[.val (.int p0), .val (.int p1), .val (.long q2), .second, .val (.long q3), .second, .val (.int (1 : Int32)), .val (.int (own_P p1)), .val (.ref b17), .val (.ref b23_r), .val (.ref b24_t), .val (.long (0 : Int64)), .second, .val (.long (0 : Int64)), .second] [(.long q2), (.long (f12_0 (own_clr (own_P p1) (own_xs q2 q3))))])) t
        refine XS.lload X28.here hx rfl (hb hby at_158) rfl ?_
        show Steps p.tables e below (T28.setTop (mkF m 160 #[.val (.int p0), .val (.int p1), .val (.long q2), .second, .val (.long q3), .second, .val (.int (1 : Int32)), .val (.int (own_P p1)), .val (.ref b17), .val (.ref b23_r), .val (.ref b24_t), .val (.long (0 : Int64)), .second, .val (.long (0 : Int64)), .second] [(.long (0 : Int64)), (.long q2), (.long (f12_0 (own_clr (own_P p1) (own_xs q2 q3))))])) t
        refine XS.land X28.here hx rfl (hb hby at_160) rfl ?_
        show Steps p.tables e below (T28.setTop (mkF m 161 #[.val (.int p0), .val (.int p1), .val (.long q2), .second, .val (.long q3), .second, .val (.int (1 : Int32)), .val (.int (own_P p1)), .val (.ref b17), .val (.ref b23_r), .val (.ref b24_t), .val (.long (0 : Int64)), .second, .val (.long (0 : Int64)), .second] [(.long (q2 &&& (0 : Int64))), (.long (f12_0 (own_clr (own_P p1) (own_xs q2 q3))))])) t
        refine XS.lcmp X28.here hx rfl (hb hby at_161) rfl ?_
        show Steps p.tables e below (T28.setTop (mkF m 162 #[.val (.int p0), .val (.int p1), .val (.long q2), .second, .val (.long q3), .second, .val (.int (1 : Int32)), .val (.int (own_P p1)), .val (.ref b17), .val (.ref b23_r), .val (.ref b24_t), .val (.long (0 : Int64)), .second, .val (.long (0 : Int64)), .second] [(.int (lcmpW (f12_0 (own_clr (own_P p1) (own_xs q2 q3))) (q2 &&& (0 : Int64))))])) t
        refine XS.ifNo X28.here hx rfl (hb hby at_162) rfl ((if0 _ _).trans (teq ((lw_eq _ _).mpr (own_h1 _ _ _ hc79))).2) ?_
        show Steps p.tables e below (T28.setTop (mkF m 165 #[.val (.int p0), .val (.int p1), .val (.long q2), .second, .val (.long q3), .second, .val (.int (1 : Int32)), .val (.int (own_P p1)), .val (.ref b17), .val (.ref b23_r), .val (.ref b24_t), .val (.long (0 : Int64)), .second, .val (.long (0 : Int64)), .second] [])) t
        refine XS.aload X28.here hx rfl (hb hby at_165) rfl rfl ?_
        show Steps p.tables e below (T28.setTop (mkF m 167 #[.val (.int p0), .val (.int p1), .val (.long q2), .second, .val (.long q3), .second, .val (.int (1 : Int32)), .val (.int (own_P p1)), .val (.ref b17), .val (.ref b23_r), .val (.ref b24_t), .val (.long (0 : Int64)), .second, .val (.long (0 : Int64)), .second] [(.ref b24_t)])) t
        refine XS.bipush X28.here hx rfl (hb hby at_167) ?_
        exact kt
      refine OGo.callS X28 hx hZ (y := (⟨"com/example/veiled_alerts/veiledalerts/model/NetworkContainingPinLaw", "get8", "([BI)J"⟩ : MethodName)) hown (own_wd hw 70 rfl) (own_wd hw 71 rfl) (own_wd hw 4 rfl) (own_wd hw 72 rfl) (by decide) (rm12_8 l Z az hw [] b24_t (own_clr (own_P p1) (own_xs q2 q3)) T24.heap n0 (Nat.le_trans Z0 KC24.1) P24_3 (own_clrl _ _)) (W := 0) (by decide) (by decide) (g := (mkF m 169 #[.val (.int p0), .val (.int p1), .val (.long q2), .second, .val (.long q3), .second, .val (.int (1 : Int32)), .val (.int (own_P p1)), .val (.ref b17), .val (.ref b23_r), .val (.ref b24_t), .val (.long (0 : Int64)), .second, .val (.long (0 : Int64)), .second] [(.int (8 : Int32)), (.ref b24_t)])) rfl (by rw [hml]; rfl) (argsL := [(.ref b24_t), (.int (8 : Int32))]) (rest := []) (lenOf pd_0_8 rfl) rfl (by show 2 * 0 + _ ≤ _; exact Nat.le_of_eq rfl) (hb hby at_169) rfl e28 (by decide) (by decide) ?_
      rintro _ T29 L29 X29 ⟨rfl, Nq29, e29⟩
      have N29 := Fr.app N28 Nq29
      show OGo _ _ _ _ _ _ _ (T29.setTop (mkF m 172 #[.val (.int p0), .val (.int p1), .val (.long q2), .second, .val (.long q3), .second, .val (.int (1 : Int32)), .val (.int (own_P p1)), .val (.ref b17), .val (.ref b23_r), .val (.ref b24_t), .val (.long (0 : Int64)), .second, .val (.long (0 : Int64)), .second] [(.long (f12_8 (own_clr (own_P p1) (own_xs q2 q3))))]))
      refine OGo.step (F' := T29.setTop (mkF m 184 #[.val (.int p0), .val (.int p1), .val (.long q2), .second, .val (.long q3), .second, .val (.int (1 : Int32)), .val (.int (own_P p1)), .val (.ref b17), .val (.ref b23_r), .val (.ref b24_t), .val (.long (0 : Int64)), .second, .val (.long (0 : Int64)), .second] [(.int (0 : Int32)), (.ref b17)])) (fun t kt => ?_) ?_
      · show Steps p.tables e below (T29.setTop (mkF m 172 #[.val (.int p0), .val (.int p1), .val (.long q2), .second, .val (.long q3), .second, .val (.int (1 : Int32)), .val (.int (own_P p1)), .val (.ref b17), .val (.ref b23_r), .val (.ref b24_t), .val (.long (0 : Int64)), .second, .val (.long (0 : Int64)), .second] [(.long (f12_8 (own_clr (own_P p1) (own_xs q2 q3))))])) t
        refine XS.lload X29.here hx rfl (hb hby at_172) rfl ?_
        show Steps p.tables e below (T29.setTop (mkF m 174 #[.val (.int p0), .val (.int p1), .val (.long q2), .second, .val (.long q3), .second, .val (.int (1 : Int32)), .val (.int (own_P p1)), .val (.ref b17), .val (.ref b23_r), .val (.ref b24_t), .val (.long (0 : Int64)), .second, .val (.long (0 : Int64)), .second] [(.long q3), (.long (f12_8 (own_clr (own_P p1) (own_xs q2 q3))))])) t
        refine XS.lload X29.here hx rfl (hb hby at_174) rfl ?_
        show Steps p.tables e below (T29.setTop (mkF m 176 #[.val (.int p0), .val (.int p1), .val (.long q2), .second, .val (.long q3), .second, .val (.int (1 : Int32)), .val (.int (own_P p1)), .val (.ref b17), .val (.ref b23_r), .val (.ref b24_t), .val (.long (0 : Int64)), .second, .val (.long (0 : Int64)), .second] [(.long (0 : Int64)), (.long q3), (.long (f12_8 (own_clr (own_P p1) (own_xs q2 q3))))])) t
        refine XS.land X29.here hx rfl (hb hby at_176) rfl ?_
        show Steps p.tables e below (T29.setTop (mkF m 177 #[.val (.int p0), .val (.int p1), .val (.long q2), .second, .val (.long q3), .second, .val (.int (1 : Int32)), .val (.int (own_P p1)), .val (.ref b17), .val (.ref b23_r), .val (.ref b24_t), .val (.long (0 : Int64)), .second, .val (.long (0 : Int64)), .second] [(.long (q3 &&& (0 : Int64))), (.long (f12_8 (own_clr (own_P p1) (own_xs q2 q3))))])) t
        refine XS.lcmp X29.here hx rfl (hb hby at_177) rfl ?_
        show Steps p.tables e below (T29.setTop (mkF m 178 #[.val (.int p0), .val (.int p1), .val (.long q2), .second, .val (.long q3), .second, .val (.int (1 : Int32)), .val (.int (own_P p1)), .val (.ref b17), .val (.ref b23_r), .val (.ref b24_t), .val (.long (0 : Int64)), .second, .val (.long (0 : Int64)), .second] [(.int (lcmpW (f12_8 (own_clr (own_P p1) (own_xs q2 q3))) (q3 &&& (0 : Int64))))])) t
        refine XS.ifNo X29.here hx rfl (hb hby at_178) rfl ((if0 _ _).trans (teq ((lw_eq _ _).mpr (own_l1 _ _ _ (own_n64 hc79)))).2) ?_
        show Steps p.tables e below (T29.setTop (mkF m 181 #[.val (.int p0), .val (.int p1), .val (.long q2), .second, .val (.long q3), .second, .val (.int (1 : Int32)), .val (.int (own_P p1)), .val (.ref b17), .val (.ref b23_r), .val (.ref b24_t), .val (.long (0 : Int64)), .second, .val (.long (0 : Int64)), .second] [])) t
        refine XS.aload X29.here hx rfl (hb hby at_181) rfl rfl ?_
        show Steps p.tables e below (T29.setTop (mkF m 183 #[.val (.int p0), .val (.int p1), .val (.long q2), .second, .val (.long q3), .second, .val (.int (1 : Int32)), .val (.int (own_P p1)), .val (.ref b17), .val (.ref b23_r), .val (.ref b24_t), .val (.long (0 : Int64)), .second, .val (.long (0 : Int64)), .second] [(.ref b17)])) t
        refine XS.iconst X29.here hx rfl (hb hby at_183) ?_
        exact kt
      refine OGo.callS X29 hx hZ (y := (⟨"com/example/veiled_alerts/veiledalerts/model/NetworkContainingPinLaw", "get8", "([BI)J"⟩ : MethodName)) hown (own_wd hw 70 rfl) (own_wd hw 71 rfl) (own_wd hw 4 rfl) (own_wd hw 72 rfl) (by decide) (rm12_0 l Z az hw [] b17 (own_xs q2 q3) T24.heap n0 (Nat.le_trans Z0 KC24.1) ((((O20.ext E21).keep K22 (ninS (Nat.ne_of_lt (Nat.lt_of_lt_of_le O20.lt (Nat.le_of_eq g21.symm))) nin0)).keep K23 nin0).keep K24 nin0) rfl) (W := 0) (by decide) (by decide) (g := (mkF m 184 #[.val (.int p0), .val (.int p1), .val (.long q2), .second, .val (.long q3), .second, .val (.int (1 : Int32)), .val (.int (own_P p1)), .val (.ref b17), .val (.ref b23_r), .val (.ref b24_t), .val (.long (0 : Int64)), .second, .val (.long (0 : Int64)), .second] [(.int (0 : Int32)), (.ref b17)])) rfl (by rw [hml]; rfl) (argsL := [(.ref b17), (.int (0 : Int32))]) (rest := []) (lenOf pd_0_8 rfl) rfl (by show 2 * 0 + _ ≤ _; exact Nat.le_of_eq rfl) (hb hby at_184) rfl e29 (by decide) (by decide) ?_
      rintro _ T30 L30 X30 ⟨rfl, Nq30, e30⟩
      have N30 := Fr.app N29 Nq30
      show OGo _ _ _ _ _ _ _ (T30.setTop (mkF m 187 #[.val (.int p0), .val (.int p1), .val (.long q2), .second, .val (.long q3), .second, .val (.int (1 : Int32)), .val (.int (own_P p1)), .val (.ref b17), .val (.ref b23_r), .val (.ref b24_t), .val (.long (0 : Int64)), .second, .val (.long (0 : Int64)), .second] [(.long (f12_0 (own_xs q2 q3)))]))
      refine OGo.step (F' := T30.setTop (mkF m 196 #[.val (.int p0), .val (.int p1), .val (.long q2), .second, .val (.long q3), .second, .val (.int (1 : Int32)), .val (.int (own_P p1)), .val (.ref b17), .val (.ref b23_r), .val (.ref b24_t), .val (.long (0 : Int64)), .second, .val (.long (0 : Int64)), .second] [(.int (8 : Int32)), (.ref b17)])) (fun t kt => ?_) ?_
      · show Steps p.tables e below (T30.setTop (mkF m 187 #[.val (.int p0), .val (.int p1), .val (.long q2), .second, .val (.long q3), .second, .val (.int (1 : Int32)), .val (.int (own_P p1)), .val (.ref b17), .val (.ref b23_r), .val (.ref b24_t), .val (.long (0 : Int64)), .second, .val (.long (0 : Int64)), .second] [(.long (f12_0 (own_xs q2 q3)))])) t
        refine XS.lloadN X30.here hx rfl (hb hby at_187) rfl ?_
        show Steps p.tables e below (T30.setTop (mkF m 188 #[.val (.int p0), .val (.int p1), .val (.long q2), .second, .val (.long q3), .second, .val (.int (1 : Int32)), .val (.int (own_P p1)), .val (.ref b17), .val (.ref b23_r), .val (.ref b24_t), .val (.long (0 : Int64)), .second, .val (.long (0 : Int64)), .second] [(.long q2), (.long (f12_0 (own_xs q2 q3)))])) t
        refine XS.lcmp X30.here hx rfl (hb hby at_188) rfl ?_
        show Steps p.tables e below (T30.setTop (mkF m 189 #[.val (.int p0), .val (.int p1), .val (.long q2), .second, .val (.long q3), .second, .val (.int (1 : Int32)), .val (.int (own_P p1)), .val (.ref b17), .val (.ref b23_r), .val (.ref b24_t), .val (.long (0 : Int64)), .second, .val (.long (0 : Int64)), .second] [(.int (lcmpW (f12_0 (own_xs q2 q3)) q2))])) t
        refine XS.ifNo X30.here hx rfl (hb hby at_189) rfl ((if0 _ _).trans (teq ((lw_eq _ _).mpr (own_gx0 _ _))).2) ?_
        show Steps p.tables e below (T30.setTop (mkF m 192 #[.val (.int p0), .val (.int p1), .val (.long q2), .second, .val (.long q3), .second, .val (.int (1 : Int32)), .val (.int (own_P p1)), .val (.ref b17), .val (.ref b23_r), .val (.ref b24_t), .val (.long (0 : Int64)), .second, .val (.long (0 : Int64)), .second] [])) t
        refine XS.aload X30.here hx rfl (hb hby at_192) rfl rfl ?_
        show Steps p.tables e below (T30.setTop (mkF m 194 #[.val (.int p0), .val (.int p1), .val (.long q2), .second, .val (.long q3), .second, .val (.int (1 : Int32)), .val (.int (own_P p1)), .val (.ref b17), .val (.ref b23_r), .val (.ref b24_t), .val (.long (0 : Int64)), .second, .val (.long (0 : Int64)), .second] [(.ref b17)])) t
        refine XS.bipush X30.here hx rfl (hb hby at_194) ?_
        exact kt
      refine OGo.callS X30 hx hZ (y := (⟨"com/example/veiled_alerts/veiledalerts/model/NetworkContainingPinLaw", "get8", "([BI)J"⟩ : MethodName)) hown (own_wd hw 70 rfl) (own_wd hw 71 rfl) (own_wd hw 4 rfl) (own_wd hw 72 rfl) (by decide) (rm12_8 l Z az hw [] b17 (own_xs q2 q3) T24.heap n0 (Nat.le_trans Z0 KC24.1) ((((O20.ext E21).keep K22 (ninS (Nat.ne_of_lt (Nat.lt_of_lt_of_le O20.lt (Nat.le_of_eq g21.symm))) nin0)).keep K23 nin0).keep K24 nin0) rfl) (W := 0) (by decide) (by decide) (g := (mkF m 196 #[.val (.int p0), .val (.int p1), .val (.long q2), .second, .val (.long q3), .second, .val (.int (1 : Int32)), .val (.int (own_P p1)), .val (.ref b17), .val (.ref b23_r), .val (.ref b24_t), .val (.long (0 : Int64)), .second, .val (.long (0 : Int64)), .second] [(.int (8 : Int32)), (.ref b17)])) rfl (by rw [hml]; rfl) (argsL := [(.ref b17), (.int (8 : Int32))]) (rest := []) (lenOf pd_0_8 rfl) rfl (by show 2 * 0 + _ ≤ _; exact Nat.le_of_eq rfl) (hb hby at_196) rfl e30 (by decide) (by decide) ?_
      rintro _ T31 L31 X31 ⟨rfl, Nq31, e31⟩
      have N31 := Fr.app N30 Nq31
      show OGo _ _ _ _ _ _ _ (T31.setTop (mkF m 199 #[.val (.int p0), .val (.int p1), .val (.long q2), .second, .val (.long q3), .second, .val (.int (1 : Int32)), .val (.int (own_P p1)), .val (.ref b17), .val (.ref b23_r), .val (.ref b24_t), .val (.long (0 : Int64)), .second, .val (.long (0 : Int64)), .second] [(.long (f12_8 (own_xs q2 q3)))]))
      refine OGo.step (F' := T31.setTop (mkF m 210 #[.val (.int p0), .val (.int p1), .val (.long q2), .second, .val (.long q3), .second, .val (.int (1 : Int32)), .val (.int (own_P p1)), .val (.ref b17), .val (.ref b23_r), .val (.ref b24_t), .val (.long (0 : Int64)), .second, .val (.long (0 : Int64)), .second] [(.int (1 : Int32))])) (fun t kt => ?_) ?_
      · show Steps p.tables e below (T31.setTop (mkF m 199 #[.val (.int p0), .val (.int p1), .val (.long q2), .second, .val (.long q3), .second, .val (.int (1 : Int32)), .val (.int (own_P p1)), .val (.ref b17), .val (.ref b23_r), .val (.ref b24_t), .val (.long (0 : Int64)), .second, .val (.long (0 : Int64)), .second] [(.long (f12_8 (own_xs q2 q3)))])) t
        refine XS.lload X31.here hx rfl (hb hby at_199) rfl ?_
        show Steps p.tables e below (T31.setTop (mkF m 201 #[.val (.int p0), .val (.int p1), .val (.long q2), .second, .val (.long q3), .second, .val (.int (1 : Int32)), .val (.int (own_P p1)), .val (.ref b17), .val (.ref b23_r), .val (.ref b24_t), .val (.long (0 : Int64)), .second, .val (.long (0 : Int64)), .second] [(.long q3), (.long (f12_8 (own_xs q2 q3)))])) t
        refine XS.lcmp X31.here hx rfl (hb hby at_201) rfl ?_
        show Steps p.tables e below (T31.setTop (mkF m 202 #[.val (.int p0), .val (.int p1), .val (.long q2), .second, .val (.long q3), .second, .val (.int (1 : Int32)), .val (.int (own_P p1)), .val (.ref b17), .val (.ref b23_r), .val (.ref b24_t), .val (.long (0 : Int64)), .second, .val (.long (0 : Int64)), .second] [(.int (lcmpW (f12_8 (own_xs q2 q3)) q3))])) t
        refine XS.ifNo X31.here hx rfl (hb hby at_202) rfl ((if0 _ _).trans (teq ((lw_eq _ _).mpr (own_gx8 _ _))).2) ?_
        show Steps p.tables e below (T31.setTop (mkF m 205 #[.val (.int p0), .val (.int p1), .val (.long q2), .second, .val (.long q3), .second, .val (.int (1 : Int32)), .val (.int (own_P p1)), .val (.ref b17), .val (.ref b23_r), .val (.ref b24_t), .val (.long (0 : Int64)), .second, .val (.long (0 : Int64)), .second] [])) t
        refine XS.iconst X31.here hx rfl (hb hby at_205) ?_
        show Steps p.tables e below (T31.setTop (mkF m 206 #[.val (.int p0), .val (.int p1), .val (.long q2), .second, .val (.long q3), .second, .val (.int (1 : Int32)), .val (.int (own_P p1)), .val (.ref b17), .val (.ref b23_r), .val (.ref b24_t), .val (.long (0 : Int64)), .second, .val (.long (0 : Int64)), .second] [(.int (1 : Int32))])) t
        refine XS.goto X31.here hx rfl (pc0 := 206) (pc' := 210) rfl (hb hby at_206) (by decide) (by decide) ?_
        exact kt
      refine OGo.retZ X31 hx hlk (t := .boolean) (z' := (1 : Int32)) hret (by simp) (hb hby at_210) rfl ?_ (by decide) (by decide)
      show Q0 Z p0 p1 q2 q3 h0 n0 _ T31.heap _
      rw [e31]
      exact ⟨rfl, N31, KC24⟩
    · refine OGo.step (F' := T25.setTop (mkF m 86 #[.val (.int p0), .val (.int p1), .val (.long q2), .second, .val (.long q3), .second, .val (.int (1 : Int32)), .val (.int (own_P p1)), .val (.ref b17), .val (.ref b23_r), .val (.ref b24_t), .unset, .unset, .unset, .unset] [])) (fun t kt => ?_) ?_
      · show Steps p.tables e below (T25.setTop (mkF m 79 #[.val (.int p0), .val (.int p1), .val (.long q2), .second, .val (.long q3), .second, .val (.int (1 : Int32)), .val (.int (own_P p1)), .val (.ref b17), .val (.ref b23_r), .val (.ref b24_t), .unset, .unset, .unset, .unset] [(.int (own_P p1))])) t
        refine XS.ifYes X25.here hx rfl (pc0 := 79) (pc' := 86) rfl (hb hby at_79) rfl ((if0 _ _).trans (feq hc79).2) (by decide) (by decide) ?_
        exact kt
      refine OGo.step (F' := T25.setTop (mkF m 90 #[.val (.int p0), .val (.int p1), .val (.long q2), .second, .val (.long q3), .second, .val (.int (1 : Int32)), .val (.int (own_P p1)), .val (.ref b17), .val (.ref b23_r), .val (.ref b24_t), .unset, .unset, .unset, .unset] [(.int (64 : Int32)), (.int (own_P p1))])) (fun t kt => ?_) ?_
      · show Steps p.tables e below (T25.setTop (mkF m 86 #[.val (.int p0), .val (.int p1), .val (.long q2), .second, .val (.long q3), .second, .val (.int (1 : Int32)), .val (.int (own_P p1)), .val (.ref b17), .val (.ref b23_r), .val (.ref b24_t), .unset, .unset, .unset, .unset] [])) t
        refine XS.iload X25.here hx rfl (hb hby at_86) rfl ?_
        show Steps p.tables e below (T25.setTop (mkF m 88 #[.val (.int p0), .val (.int p1), .val (.long q2), .second, .val (.long q3), .second, .val (.int (1 : Int32)), .val (.int (own_P p1)), .val (.ref b17), .val (.ref b23_r), .val (.ref b24_t), .unset, .unset, .unset, .unset] [(.int (own_P p1))])) t
        refine XS.bipush X25.here hx rfl (hb hby at_88) ?_
        exact kt
      by_cases hc90 : (own_P p1) < (64 : Int32)
      · refine OGo.step (F' := T25.setTop (mkF m 99 #[.val (.int p0), .val (.int p1), .val (.long q2), .second, .val (.long q3), .second, .val (.int (1 : Int32)), .val (.int (own_P p1)), .val (.ref b17), .val (.ref b23_r), .val (.ref b24_t), .unset, .unset, .unset, .unset] [])) (fun t kt => ?_) ?_
        · show Steps p.tables e below (T25.setTop (mkF m 90 #[.val (.int p0), .val (.int p1), .val (.long q2), .second, .val (.long q3), .second, .val (.int (1 : Int32)), .val (.int (own_P p1)), .val (.ref b17), .val (.ref b23_r), .val (.ref b24_t), .unset, .unset, .unset, .unset] [(.int (64 : Int32)), (.int (own_P p1))])) t
          refine XS.icmpYes X25.here hx rfl (pc0 := 90) (pc' := 99) rfl (hb hby at_90) rfl (tlt hc90).1 (by decide) (by decide) ?_
          exact kt
        refine OGo.step (F' := T25.setTop (mkF m 135 #[.val (.int p0), .val (.int p1), .val (.long q2), .second, .val (.long q3), .second, .val (.int (1 : Int32)), .val (.int (own_P p1)), .val (.ref b17), .val (.ref b23_r), .val (.ref b24_t), .val (.long ((-1 : Int64) <<< (((64 : Int32) - (own_P p1)) &&& 0x3f).toInt64)), .second, .val (.long (0 : Int64)), .second] [(.ref b23_r)])) (fun t kt => ?_) ?_
        · show Steps p.tables e below (T25.setTop (mkF m 99 #[.val (.int p0), .val (.int p1), .val (.long q2), .second, .val (.long q3), .second, .val (.int (1 : Int32)), .val (.int (own_P p1)), .val (.ref b17), .val (.ref b23_r), .val (.ref b24_t), .unset, .unset, .unset, .unset] [])) t
          refine X25.ldc2Long hx hown (mvT hZ (own_wd hw 69 rfl)) (g := (mkF m 99 #[.val (.int p0), .val (.int p1), .val (.long q2), .second, .val (.long q3), .second, .val (.int (1 : Int32)), .val (.int (own_P p1)), .val (.ref b17), .val (.ref b23_r), .val (.ref b24_t), .unset, .unset, .unset, .unset] [])) rfl (hb hby at_99) _ ?_
          show Steps p.tables e below (T25.setTop (mkF m 102 #[.val (.int p0), .val (.int p1), .val (.long q2), .second, .val (.long q3), .second, .val (.int (1 : Int32)), .val (.int (own_P p1)), .val (.ref b17), .val (.ref b23_r), .val (.ref b24_t), .unset, .unset, .unset, .unset] [(.long (-1 : Int64))])) t
          refine XS.bipush X25.here hx rfl (hb hby at_102) ?_
          show Steps p.tables e below (T25.setTop (mkF m 104 #[.val (.int p0), .val (.int p1), .val (.long q2), .second, .val (.long q3), .second, .val (.int (1 : Int32)), .val (.int (own_P p1)), .val (.ref b17), .val (.ref b23_r), .val (.ref b24_t), .unset, .unset, .unset, .unset] [(.int (64 : Int32)), (.long (-1 : Int64))])) t
          refine XS.iload X25.here hx rfl (hb hby at_104) rfl ?_
          show Steps p.tables e below (T25.setTop (mkF m 106 #[.val (.int p0), .val (.int p1), .val (.long q2), .second, .val (.long q3), .second, .val (.int (1 : Int32)), .val (.int (own_P p1)), .val (.ref b17), .val (.ref b23_r), .val (.ref b24_t), .unset, .unset, .unset, .unset] [(.int (own_P p1)), (.int (64 : Int32)), (.long (-1 : Int64))])) t
          refine XS.isub X25.here hx rfl (hb hby at_106) rfl ?_
          show Steps p.tables e below (T25.setTop (mkF m 107 #[.val (.int p0), .val (.int p1), .val (.long q2), .second, .val (.long q3), .second, .val (.int (1 : Int32)), .val (.int (own_P p1)), .val (.ref b17), .val (.ref b23_r), .val (.ref b24_t), .unset, .unset, .unset, .unset] [(.int ((64 : Int32) - (own_P p1))), (.long (-1 : Int64))])) t
          refine XS.lshl X25.here hx rfl (hb hby at_107) rfl ?_
          show Steps p.tables e below (T25.setTop (mkF m 108 #[.val (.int p0), .val (.int p1), .val (.long q2), .second, .val (.long q3), .second, .val (.int (1 : Int32)), .val (.int (own_P p1)), .val (.ref b17), .val (.ref b23_r), .val (.ref b24_t), .unset, .unset, .unset, .unset] [(.long ((-1 : Int64) <<< (((64 : Int32) - (own_P p1)) &&& 0x3f).toInt64))])) t
          refine XS.lstore X25.here hx rfl (hb hby at_108) rfl (l' := #[.val (.int p0), .val (.int p1), .val (.long q2), .second, .val (.long q3), .second, .val (.int (1 : Int32)), .val (.int (own_P p1)), .val (.ref b17), .val (.ref b23_r), .val (.ref b24_t), .val (.long ((-1 : Int64) <<< (((64 : Int32) - (own_P p1)) &&& 0x3f).toInt64)), .second, .unset, .unset]) rfl ?_
          show Steps p.tables e below (T25.setTop (mkF m 110 #[.val (.int p0), .val (.int p1), .val (.long q2), .second, .val (.long q3), .second, .val (.int (1 : Int32)), .val (.int (own_P p1)), .val (.ref b17), .val (.ref b23_r), .val (.ref b24_t), .val (.long ((-1 : Int64) <<< (((64 : Int32) - (own_P p1)) &&& 0x3f).toInt64)), .second, .unset, .unset] [])) t
          refine XS.iload X25.here hx rfl (hb hby at_110) rfl ?_
          show Steps p.tables e below (T25.setTop (mkF m 112 #[.val (.int p0), .val (.int p1), .val (.long q2), .second, .val (.long q3), .second, .val (.int (1 : Int32)), .val (.int (own_P p1)), .val (.ref b17), .val (.ref b23_r), .val (.ref b24_t), .val (.long ((-1 : Int64) <<< (((64 : Int32) - (own_P p1)) &&& 0x3f).toInt64)), .second, .unset, .unset] [(.int (own_P p1))])) t
          refine XS.bipush X25.here hx rfl (hb hby at_112) ?_
          show Steps p.tables e below (T25.setTop (mkF m 114 #[.val (.int p0), .val (.int p1), .val (.long q2), .second, .val (.long q3), .second, .val (.int (1 : Int32)), .val (.int (own_P p1)), .val (.ref b17), .val (.ref b23_r), .val (.ref b24_t), .val (.long ((-1 : Int64) <<< (((64 : Int32) - (own_P p1)) &&& 0x3f).toInt64)), .second, .unset, .unset] [(.int (64 : Int32)), (.int (own_P p1))])) t
          refine XS.icmpNo X25.here hx rfl (hb hby at_114) rfl (flt (own_n65 hc90)).2.2.1 ?_
          show Steps p.tables e below (T25.setTop (mkF m 117 #[.val (.int p0), .val (.int p1), .val (.long q2), .second, .val (.long q3), .second, .val (.int (1 : Int32)), .val (.int (own_P p1)), .val (.ref b17), .val (.ref b23_r), .val (.ref b24_t), .val (.long ((-1 : Int64) <<< (((64 : Int32) - (own_P p1)) &&& 0x3f).toInt64)), .second, .unset, .unset] [])) t
          refine XS.lconst X25.here hx rfl (hb hby at_117) ?_
          show Steps p.tables e below (T25.setTop (mkF m 118 #[.val (.int p0), .val (.int p1), .val (.long q2), .second, .val (.long q3), .second, .val (.int (1 : Int32)), .val (.int (own_P p1)), .val (.ref b17), .val (.ref b23_r), .val (.ref b24_t), .val (.long ((-1 : Int64) <<< (((64 : Int32) - (own_P p1)) &&& 0x3f).toInt64)), .second, .unset, .unset] [(.long (0 : Int64))])) t
          refine XS.goto X25.here hx rfl (pc0 := 118) (pc' := 131) rfl (hb hby at_118) (by decide) (by decide) ?_
          show Steps p.tables e below (T25.setTop (mkF m 131 #[.val (.int p0), .val (.int p1), .val (.long q2), .second, .val (.long q3), .second, .val (.int (1 : Int32)), .val (.int (own_P p1)), .val (.ref b17), .val (.ref b23_r), .val (.ref b24_t), .val (.long ((-1 : Int64) <<< (((64 : Int32) - (own_P p1)) &&& 0x3f).toInt64)), .second, .unset, .unset] [(.long (0 : Int64))])) t
          refine XS.lstore X25.here hx rfl (hb hby at_131) rfl (l' := #[.val (.int p0), .val (.int p1), .val (.long q2), .second, .val (.long q3), .second, .val (.int (1 : Int32)), .val (.int (own_P p1)), .val (.ref b17), .val (.ref b23_r), .val (.ref b24_t), .val (.long ((-1 : Int64) <<< (((64 : Int32) - (own_P p1)) &&& 0x3f).toInt64)), .second, .val (.long (0 : Int64)), .second]) rfl ?_
          show Steps p.tables e below (T25.setTop (mkF m 133 #[.val (.int p0), .val (.int p1), .val (.long q2), .second, .val (.long q3), .second, .val (.int (1 : Int32)), .val (.int (own_P p1)), .val (.ref b17), .val (.ref b23_r), .val (.ref b24_t), .val (.long ((-1 : Int64) <<< (((64 : Int32) - (own_P p1)) &&& 0x3f).toInt64)), .second, .val (.long (0 : Int64)), .second] [])) t
          refine XS.aload X25.here hx rfl (hb hby at_133) rfl rfl ?_
          exact kt
        refine OGo.callV X25 hx hZ (y := (⟨"com/example/veiled_alerts/veiledalerts/model/Network", "prefixLength", "()I"⟩ : MethodName)) (z := (⟨"com/example/veiled_alerts/veiledalerts/model/Network", "prefixLength", "()I"⟩ : MethodName)) hown (own_wd hw 58 rfl) (own_wd hw 59 rfl) (notFace_of_selects (args := #[]) (mvT hZ (own_wd hw 61 rfl))) (own_wd hw 61 rfl) (own_wd hw 60 rfl) (own_wd hw 19 rfl) (own_wd hw 62 rfl) (by decide) (rm9 l Z az hw [] b23_r (own_P p1) T24.heap n0 (Nat.le_trans Z0 KC24.1) (P23_2.keep K24 nin0)) (W := 0) (by decide) (by decide) (P23_0.keep K24) (g := (mkF m 135 #[.val (.int p0), .val (.int p1), .val (.long q2), .second, .val (.long q3), .second, .val (.int (1 : Int32)), .val (.int (own_P p1)), .val (.ref b17), .val (.ref b23_r), .val (.ref b24_t), .val (.long ((-1 : Int64) <<< (((64 : Int32) - (own_P p1)) &&& 0x3f).toInt64)), .second, .val (.long (0 : Int64)), .second] [(.ref b23_r)])) rfl (by rw [hml]; rfl) (argsL := []) (rest := []) (lenOf pd_0_5 rfl) rfl (by show 2 * 0 + _ ≤ _; exact Nat.le_of_eq rfl) (hb hby at_135) rfl e25 (by decide) (by decide) ?_
        rintro _ T32 L32 X32 ⟨hv32, Nq32, e32⟩
        have N32 := Fr.app N25 Nq32
        rw [show (f9 (own_P p1)) = (own_P p1) from rfl] at hv32
        subst hv32
        show OGo _ _ _ _ _ _ _ (T32.setTop (mkF m 138 #[.val (.int p0), .val (.int p1), .val (.long q2), .second, .val (.long q3), .second, .val (.int (1 : Int32)), .val (.int (own_P p1)), .val (.ref b17), .val (.ref b23_r), .val (.ref b24_t), .val (.long ((-1 : Int64) <<< (((64 : Int32) - (own_P p1)) &&& 0x3f).toInt64)), .second, .val (.long (0 : Int64)), .second] [(.int (own_P p1))]))
        refine OGo.step (F' := T32.setTop (mkF m 145 #[.val (.int p0), .val (.int p1), .val (.long q2), .second, .val (.long q3), .second, .val (.int (1 : Int32)), .val (.int (own_P p1)), .val (.ref b17), .val (.ref b23_r), .val (.ref b24_t), .val (.long ((-1 : Int64) <<< (((64 : Int32) - (own_P p1)) &&& 0x3f).toInt64)), .second, .val (.long (0 : Int64)), .second] [(.ref b24_t)])) (fun t kt => ?_) ?_
        · show Steps p.tables e below (T32.setTop (mkF m 138 #[.val (.int p0), .val (.int p1), .val (.long q2), .second, .val (.long q3), .second, .val (.int (1 : Int32)), .val (.int (own_P p1)), .val (.ref b17), .val (.ref b23_r), .val (.ref b24_t), .val (.long ((-1 : Int64) <<< (((64 : Int32) - (own_P p1)) &&& 0x3f).toInt64)), .second, .val (.long (0 : Int64)), .second] [(.int (own_P p1))])) t
          refine XS.iload X32.here hx rfl (hb hby at_138) rfl ?_
          show Steps p.tables e below (T32.setTop (mkF m 140 #[.val (.int p0), .val (.int p1), .val (.long q2), .second, .val (.long q3), .second, .val (.int (1 : Int32)), .val (.int (own_P p1)), .val (.ref b17), .val (.ref b23_r), .val (.ref b24_t), .val (.long ((-1 : Int64) <<< (((64 : Int32) - (own_P p1)) &&& 0x3f).toInt64)), .second, .val (.long (0 : Int64)), .second] [(.int (own_P p1)), (.int (own_P p1))])) t
          refine XS.icmpNo X32.here hx rfl (hb hby at_140) rfl (teq (rfl : (own_P p1) = (own_P p1))).2 ?_
          show Steps p.tables e below (T32.setTop (mkF m 143 #[.val (.int p0), .val (.int p1), .val (.long q2), .second, .val (.long q3), .second, .val (.int (1 : Int32)), .val (.int (own_P p1)), .val (.ref b17), .val (.ref b23_r), .val (.ref b24_t), .val (.long ((-1 : Int64) <<< (((64 : Int32) - (own_P p1)) &&& 0x3f).toInt64)), .second, .val (.long (0 : Int64)), .second] [])) t
          refine XS.aload X32.here hx rfl (hb hby at_143) rfl rfl ?_
          exact kt
        obtain ⟨kk33, cl33, Ar33, qz33, S33, N33a, H33, G33⟩ := id (P24_3)
        refine OGo.step (F' := T32.setTop (mkF m 146 #[.val (.int p0), .val (.int p1), .val (.long q2), .second, .val (.long q3), .second, .val (.int (1 : Int32)), .val (.int (own_P p1)), .val (.ref b17), .val (.ref b23_r), .val (.ref b24_t), .val (.long ((-1 : Int64) <<< (((64 : Int32) - (own_P p1)) &&& 0x3f).toInt64)), .second, .val (.long (0 : Int64)), .second] [(.int (Int32.ofNat (own_clr (own_P p1) (own_xs q2 q3)).length))])) (fun t kt => ?_) ?_
        · show Steps p.tables e below (T32.setTop (mkF m 145 #[.val (.int p0), .val (.int p1), .val (.long q2), .second, .val (.long q3), .second, .val (.int (1 : Int32)), .val (.int (own_P p1)), .val (.ref b17), .val (.ref b23_r), .val (.ref b24_t), .val (.long ((-1 : Int64) <<< (((64 : Int32) - (own_P p1)) &&& 0x3f).toInt64)), .second, .val (.long (0 : Int64)), .second] [(.ref b24_t)])) t
          refine X32.arraylength hx (by rw [e32]; exact Ar33.1) (State.isArrayOf_alike hZ.alike Ar33.2.1) (g := (mkF m 145 #[.val (.int p0), .val (.int p1), .val (.long q2), .second, .val (.long q3), .second, .val (.int (1 : Int32)), .val (.int (own_P p1)), .val (.ref b17), .val (.ref b23_r), .val (.ref b24_t), .val (.long ((-1 : Int64) <<< (((64 : Int32) - (own_P p1)) &&& 0x3f).toInt64)), .second, .val (.long (0 : Int64)), .second] [(.ref b24_t)])) rfl rfl (hb hby at_145) _ ?_
          rw [len_of S33 N33a]
          exact kt
        refine OGo.step (F' := T32.setTop (mkF m 154 #[.val (.int p0), .val (.int p1), .val (.long q2), .second, .val (.long q3), .second, .val (.int (1 : Int32)), .val (.int (own_P p1)), .val (.ref b17), .val (.ref b23_r), .val (.ref b24_t), .val (.long ((-1 : Int64) <<< (((64 : Int32) - (own_P p1)) &&& 0x3f).toInt64)), .second, .val (.long (0 : Int64)), .second] [(.int (0 : Int32)), (.ref b24_t)])) (fun t kt => ?_) ?_
        · show Steps p.tables e below (T32.setTop (mkF m 146 #[.val (.int p0), .val (.int p1), .val (.long q2), .second, .val (.long q3), .second, .val (.int (1 : Int32)), .val (.int (own_P p1)), .val (.ref b17), .val (.ref b23_r), .val (.ref b24_t), .val (.long ((-1 : Int64) <<< (((64 : Int32) - (own_P p1)) &&& 0x3f).toInt64)), .second, .val (.long (0 : Int64)), .second] [(.int (Int32.ofNat (own_clr (own_P p1) (own_xs q2 q3)).length))])) t
          refine XS.bipush X32.here hx rfl (hb hby at_146) ?_
          show Steps p.tables e below (T32.setTop (mkF m 148 #[.val (.int p0), .val (.int p1), .val (.long q2), .second, .val (.long q3), .second, .val (.int (1 : Int32)), .val (.int (own_P p1)), .val (.ref b17), .val (.ref b23_r), .val (.ref b24_t), .val (.long ((-1 : Int64) <<< (((64 : Int32) - (own_P p1)) &&& 0x3f).toInt64)), .second, .val (.long (0 : Int64)), .second] [(.int (16 : Int32)), (.int (Int32.ofNat (own_clr (own_P p1) (own_xs q2 q3)).length))])) t
          refine XS.icmpNo X32.here hx rfl (hb hby at_148) rfl (teq (own_l16 _ _ _)).2 ?_
          show Steps p.tables e below (T32.setTop (mkF m 151 #[.val (.int p0), .val (.int p1), .val (.long q2), .second, .val (.long q3), .second, .val (.int (1 : Int32)), .val (.int (own_P p1)), .val (.ref b17), .val (.ref b23_r), .val (.ref b24_t), .val (.long ((-1 : Int64) <<< (((64 : Int32) - (own_P p1)) &&& 0x3f).toInt64)), .second, .val (.long (0 : Int64)), .second] [])) t
          refine XS.aload X32.here hx rfl (hb hby at_151) rfl rfl ?_
          show Steps p.tables e below (T32.setTop (mkF m 153 #[.val (.int p0), .val (.int p1), .val (.long q2), .second, .val (.long q3), .second, .val (.int (1 : Int32)), .val (.int (own_P p1)), .val (.ref b17), .val (.ref b23_r), .val (.ref b24_t), .val (.long ((-1 : Int64) <<< (((64 : Int32) - (own_P p1)) &&& 0x3f).toInt64)), .second, .val (.long (0 : Int64)), .second] [(.ref b24_t)])) t
          refine XS.iconst X32.here hx rfl (hb hby at_153) ?_
          exact kt
        refine OGo.callS X32 hx hZ (y := (⟨"com/example/veiled_alerts/veiledalerts/model/NetworkContainingPinLaw", "get8", "([BI)J"⟩ : MethodName)) hown (own_wd hw 70 rfl) (own_wd hw 71 rfl) (own_wd hw 4 rfl) (own_wd hw 72 rfl) (by decide) (rm12_0 l Z az hw [] b24_t (own_clr (own_P p1) (own_xs q2 q3)) T24.heap n0 (Nat.le_trans Z0 KC24.1) P24_3 (own_clrl _ _)) (W := 0) (by decide) (by decide) (g := (mkF m 154 #[.val (.int p0), .val (.int p1), .val (.long q2), .second, .val (.long q3), .second, .val (.int (1 : Int32)), .val (.int (own_P p1)), .val (.ref b17), .val (.ref b23_r), .val (.ref b24_t), .val (.long ((-1 : Int64) <<< (((64 : Int32) - (own_P p1)) &&& 0x3f).toInt64)), .second, .val (.long (0 : Int64)), .second] [(.int (0 : Int32)), (.ref b24_t)])) rfl (by rw [hml]; rfl) (argsL := [(.ref b24_t), (.int (0 : Int32))]) (rest := []) (lenOf pd_0_8 rfl) rfl (by show 2 * 0 + _ ≤ _; exact Nat.le_of_eq rfl) (hb hby at_154) rfl e32 (by decide) (by decide) ?_
        rintro _ T34 L34 X34 ⟨rfl, Nq34, e34⟩
        have N34 := Fr.app N32 Nq34
        show OGo _ _ _ _ _ _ _ (T34.setTop (mkF m 157 #[.val (.int p0), .val (.int p1), .val (.long q2), .second, .val (.long q3), .second, .val (.int (1 : Int32)), .val (.int (own_P p1)), .val (.ref b17), .val (.ref b23_r), .val (.ref b24_t), .val (.long ((-1 : Int64) <<< (((64 : Int32) - (own_P p1)) &&& 0x3f).toInt64)), .second, .val (.long (0 : Int64)), .second] [(.long (f12_0 (own_clr (own_P p1) (own_xs q2 q3))))]))
        refine OGo.step (F' := T34.setTop (mkF m 169 #[.val (.int p0), .val (.int p1), .val (.long q2), .second, .val (.long q3), .second, .val (.int (1 : Int32)), .val (.int (own_P p1)), .val (.ref b17), .val (.ref b23_r), .val (.ref b24_t), .val (.long ((-1 : Int64) <<< (((64 : Int32) - (own_P p1)) &&& 0x3f).toInt64)), .second, .val (.long (0 : Int64)), .second] [(.int (8 : Int32)), (.ref b24_t)])) (fun t kt => ?_) ?_
        · show Steps p.tables e below (T34.setTop (mkF m 157 #[.val (.int p0), .val (.int p1), .val (.long q2), .second, .val (.long q3), .second, .val (.int (1 : Int32)), .val (.int (own_P p1)), .val (.ref b17), .val (.ref b23_r), .val (.ref b24_t), .val (.long ((-1 : Int64) <<< (((64 : Int32) - (own_P p1)) &&& 0x3f).toInt64)), .second, .val (.long (0 : Int64)), .second] [(.long (f12_0 (own_clr (own_P p1) (own_xs q2 q3))))])) t
          refine XS.lloadN X34.here hx rfl (hb hby at_157) rfl ?_
          show Steps p.tables e below (T34.setTop (mkF m 158 #[.val (.int p0), .val (.int p1), .val (.long q2), .second, .val (.long q3), .second, .val (.int (1 : Int32)), .val (.int (own_P p1)), .val (.ref b17), .val (.ref b23_r), .val (.ref b24_t), .val (.long ((-1 : Int64) <<< (((64 : Int32) - (own_P p1)) &&& 0x3f).toInt64)), .second, .val (.long (0 : Int64)), .second] [(.long q2), (.long (f12_0 (own_clr (own_P p1) (own_xs q2 q3))))])) t
          refine XS.lload X34.here hx rfl (hb hby at_158) rfl ?_
          show Steps p.tables e below (T34.setTop (mkF m 160 #[.val (.int p0), .val (.int p1), .val (.long q2), .second, .val (.long q3), .second, .val (.int (1 : Int32)), .val (.int (own_P p1)), .val (.ref b17), .val (.ref b23_r), .val (.ref b24_t), .val (.long ((-1 : Int64) <<< (((64 : Int32) - (own_P p1)) &&& 0x3f).toInt64)), .second, .val (.long (0 : Int64)), .second] [(.long ((-1 : Int64) <<< (((64 : Int32) - (own_P p1)) &&& 0x3f).toInt64)), (.long q2), (.long (f12_0 (own_clr (own_P p1) (own_xs q2 q3))))])) t
          refine XS.land X34.here hx rfl (hb hby at_160) rfl ?_
          show Steps p.tables e below (T34.setTop (mkF m 161 #[.val (.int p0), .val (.int p1), .val (.long q2), .second, .val (.long q3), .second, .val (.int (1 : Int32)), .val (.int (own_P p1)), .val (.ref b17), .val (.ref b23_r), .val (.ref b24_t), .val (.long ((-1 : Int64) <<< (((64 : Int32) - (own_P p1)) &&& 0x3f).toInt64)), .second, .val (.long (0 : Int64)), .second] [(.long (q2 &&& ((-1 : Int64) <<< (((64 : Int32) - (own_P p1)) &&& 0x3f).toInt64))), (.long (f12_0 (own_clr (own_P p1) (own_xs q2 q3))))])) t
          refine XS.lcmp X34.here hx rfl (hb hby at_161) rfl ?_
          show Steps p.tables e below (T34.setTop (mkF m 162 #[.val (.int p0), .val (.int p1), .val (.long q2), .second, .val (.long q3), .second, .val (.int (1 : Int32)), .val (.int (own_P p1)), .val (.ref b17), .val (.ref b23_r), .val (.ref b24_t), .val (.long ((-1 : Int64) <<< (((64 : Int32) - (own_P p1)) &&& 0x3f).toInt64)), .second, .val (.long (0 : Int64)), .second] [(.int (lcmpW (f12_0 (own_clr (own_P p1) (own_xs q2 q3))) (q2 &&& ((-1 : Int64) <<< (((64 : Int32) - (own_P p1)) &&& 0x3f).toInt64))))])) t
          refine XS.ifNo X34.here hx rfl (hb hby at_162) rfl ((if0 _ _).trans (teq ((lw_eq _ _).mpr (own_h3 _ _ _ hc90 hc79))).2) ?_
          show Steps p.tables e below (T34.setTop (mkF m 165 #[.val (.int p0), .val (.int p1), .val (.long q2), .second, .val (.long q3), .second, .val (.int (1 : Int32)), .val (.int (own_P p1)), .val (.ref b17), .val (.ref b23_r), .val (.ref b24_t), .val (.long ((-1 : Int64) <<< (((64 : Int32) - (own_P p1)) &&& 0x3f).toInt64)), .second, .val (.long (0 : Int64)), .second] [])) t
          refine XS.aload X34.here hx rfl (hb hby at_165) rfl rfl ?_
          show Steps p.tables e below (T34.setTop (mkF m 167 #[.val (.int p0), .val (.int p1), .val (.long q2), .second, .val (.long q3), .second, .val (.int (1 : Int32)), .val (.int (own_P p1)), .val (.ref b17), .val (.ref b23_r), .val (.ref b24_t), .val (.long ((-1 : Int64) <<< (((64 : Int32) - (own_P p1)) &&& 0x3f).toInt64)), .second, .val (.long (0 : Int64)), .second] [(.ref b24_t)])) t
          refine XS.bipush X34.here hx rfl (hb hby at_167) ?_
          exact kt
        refine OGo.callS X34 hx hZ (y := (⟨"com/example/veiled_alerts/veiledalerts/model/NetworkContainingPinLaw", "get8", "([BI)J"⟩ : MethodName)) hown (own_wd hw 70 rfl) (own_wd hw 71 rfl) (own_wd hw 4 rfl) (own_wd hw 72 rfl) (by decide) (rm12_8 l Z az hw [] b24_t (own_clr (own_P p1) (own_xs q2 q3)) T24.heap n0 (Nat.le_trans Z0 KC24.1) P24_3 (own_clrl _ _)) (W := 0) (by decide) (by decide) (g := (mkF m 169 #[.val (.int p0), .val (.int p1), .val (.long q2), .second, .val (.long q3), .second, .val (.int (1 : Int32)), .val (.int (own_P p1)), .val (.ref b17), .val (.ref b23_r), .val (.ref b24_t), .val (.long ((-1 : Int64) <<< (((64 : Int32) - (own_P p1)) &&& 0x3f).toInt64)), .second, .val (.long (0 : Int64)), .second] [(.int (8 : Int32)), (.ref b24_t)])) rfl (by rw [hml]; rfl) (argsL := [(.ref b24_t), (.int (8 : Int32))]) (rest := []) (lenOf pd_0_8 rfl) rfl (by show 2 * 0 + _ ≤ _; exact Nat.le_of_eq rfl) (hb hby at_169) rfl e34 (by decide) (by decide) ?_
        rintro _ T35 L35 X35 ⟨rfl, Nq35, e35⟩
        have N35 := Fr.app N34 Nq35
        show OGo _ _ _ _ _ _ _ (T35.setTop (mkF m 172 #[.val (.int p0), .val (.int p1), .val (.long q2), .second, .val (.long q3), .second, .val (.int (1 : Int32)), .val (.int (own_P p1)), .val (.ref b17), .val (.ref b23_r), .val (.ref b24_t), .val (.long ((-1 : Int64) <<< (((64 : Int32) - (own_P p1)) &&& 0x3f).toInt64)), .second, .val (.long (0 : Int64)), .second] [(.long (f12_8 (own_clr (own_P p1) (own_xs q2 q3))))]))
        refine OGo.step (F' := T35.setTop (mkF m 184 #[.val (.int p0), .val (.int p1), .val (.long q2), .second, .val (.long q3), .second, .val (.int (1 : Int32)), .val (.int (own_P p1)), .val (.ref b17), .val (.ref b23_r), .val (.ref b24_t), .val (.long ((-1 : Int64) <<< (((64 : Int32) - (own_P p1)) &&& 0x3f).toInt64)), .second, .val (.long (0 : Int64)), .second] [(.int (0 : Int32)), (.ref b17)])) (fun t kt => ?_) ?_
        · show Steps p.tables e below (T35.setTop (mkF m 172 #[.val (.int p0), .val (.int p1), .val (.long q2), .second, .val (.long q3), .second, .val (.int (1 : Int32)), .val (.int (own_P p1)), .val (.ref b17), .val (.ref b23_r), .val (.ref b24_t), .val (.long ((-1 : Int64) <<< (((64 : Int32) - (own_P p1)) &&& 0x3f).toInt64)), .second, .val (.long (0 : Int64)), .second] [(.long (f12_8 (own_clr (own_P p1) (own_xs q2 q3))))])) t
          refine XS.lload X35.here hx rfl (hb hby at_172) rfl ?_
          show Steps p.tables e below (T35.setTop (mkF m 174 #[.val (.int p0), .val (.int p1), .val (.long q2), .second, .val (.long q3), .second, .val (.int (1 : Int32)), .val (.int (own_P p1)), .val (.ref b17), .val (.ref b23_r), .val (.ref b24_t), .val (.long ((-1 : Int64) <<< (((64 : Int32) - (own_P p1)) &&& 0x3f).toInt64)), .second, .val (.long (0 : Int64)), .second] [(.long q3), (.long (f12_8 (own_clr (own_P p1) (own_xs q2 q3))))])) t
          refine XS.lload X35.here hx rfl (hb hby at_174) rfl ?_
          show Steps p.tables e below (T35.setTop (mkF m 176 #[.val (.int p0), .val (.int p1), .val (.long q2), .second, .val (.long q3), .second, .val (.int (1 : Int32)), .val (.int (own_P p1)), .val (.ref b17), .val (.ref b23_r), .val (.ref b24_t), .val (.long ((-1 : Int64) <<< (((64 : Int32) - (own_P p1)) &&& 0x3f).toInt64)), .second, .val (.long (0 : Int64)), .second] [(.long (0 : Int64)), (.long q3), (.long (f12_8 (own_clr (own_P p1) (own_xs q2 q3))))])) t
          refine XS.land X35.here hx rfl (hb hby at_176) rfl ?_
          show Steps p.tables e below (T35.setTop (mkF m 177 #[.val (.int p0), .val (.int p1), .val (.long q2), .second, .val (.long q3), .second, .val (.int (1 : Int32)), .val (.int (own_P p1)), .val (.ref b17), .val (.ref b23_r), .val (.ref b24_t), .val (.long ((-1 : Int64) <<< (((64 : Int32) - (own_P p1)) &&& 0x3f).toInt64)), .second, .val (.long (0 : Int64)), .second] [(.long (q3 &&& (0 : Int64))), (.long (f12_8 (own_clr (own_P p1) (own_xs q2 q3))))])) t
          refine XS.lcmp X35.here hx rfl (hb hby at_177) rfl ?_
          show Steps p.tables e below (T35.setTop (mkF m 178 #[.val (.int p0), .val (.int p1), .val (.long q2), .second, .val (.long q3), .second, .val (.int (1 : Int32)), .val (.int (own_P p1)), .val (.ref b17), .val (.ref b23_r), .val (.ref b24_t), .val (.long ((-1 : Int64) <<< (((64 : Int32) - (own_P p1)) &&& 0x3f).toInt64)), .second, .val (.long (0 : Int64)), .second] [(.int (lcmpW (f12_8 (own_clr (own_P p1) (own_xs q2 q3))) (q3 &&& (0 : Int64))))])) t
          refine XS.ifNo X35.here hx rfl (hb hby at_178) rfl ((if0 _ _).trans (teq ((lw_eq _ _).mpr (own_l1 _ _ _ (own_n65 hc90)))).2) ?_
          show Steps p.tables e below (T35.setTop (mkF m 181 #[.val (.int p0), .val (.int p1), .val (.long q2), .second, .val (.long q3), .second, .val (.int (1 : Int32)), .val (.int (own_P p1)), .val (.ref b17), .val (.ref b23_r), .val (.ref b24_t), .val (.long ((-1 : Int64) <<< (((64 : Int32) - (own_P p1)) &&& 0x3f).toInt64)), .second, .val (.long (0 : Int64)), .second] [])) t
          refine XS.aload X35.here hx rfl (hb hby at_181) rfl rfl ?_
          show Steps p.tables e below (T35.setTop (mkF m 183 #[.val (.int p0), .val (.int p1), .val (.long q2), .second, .val (.long q3), .second, .val (.int (1 : Int32)), .val (.int (own_P p1)), .val (.ref b17), .val (.ref b23_r), .val (.ref b24_t), .val (.long ((-1 : Int64) <<< (((64 : Int32) - (own_P p1)) &&& 0x3f).toInt64)), .second, .val (.long (0 : Int64)), .second] [(.ref b17)])) t
          refine XS.iconst X35.here hx rfl (hb hby at_183) ?_
          exact kt
        refine OGo.callS X35 hx hZ (y := (⟨"com/example/veiled_alerts/veiledalerts/model/NetworkContainingPinLaw", "get8", "([BI)J"⟩ : MethodName)) hown (own_wd hw 70 rfl) (own_wd hw 71 rfl) (own_wd hw 4 rfl) (own_wd hw 72 rfl) (by decide) (rm12_0 l Z az hw [] b17 (own_xs q2 q3) T24.heap n0 (Nat.le_trans Z0 KC24.1) ((((O20.ext E21).keep K22 (ninS (Nat.ne_of_lt (Nat.lt_of_lt_of_le O20.lt (Nat.le_of_eq g21.symm))) nin0)).keep K23 nin0).keep K24 nin0) rfl) (W := 0) (by decide) (by decide) (g := (mkF m 184 #[.val (.int p0), .val (.int p1), .val (.long q2), .second, .val (.long q3), .second, .val (.int (1 : Int32)), .val (.int (own_P p1)), .val (.ref b17), .val (.ref b23_r), .val (.ref b24_t), .val (.long ((-1 : Int64) <<< (((64 : Int32) - (own_P p1)) &&& 0x3f).toInt64)), .second, .val (.long (0 : Int64)), .second] [(.int (0 : Int32)), (.ref b17)])) rfl (by rw [hml]; rfl) (argsL := [(.ref b17), (.int (0 : Int32))]) (rest := []) (lenOf pd_0_8 rfl) rfl (by show 2 * 0 + _ ≤ _; exact Nat.le_of_eq rfl) (hb hby at_184) rfl e35 (by decide) (by decide) ?_
        rintro _ T36 L36 X36 ⟨rfl, Nq36, e36⟩
        have N36 := Fr.app N35 Nq36
        show OGo _ _ _ _ _ _ _ (T36.setTop (mkF m 187 #[.val (.int p0), .val (.int p1), .val (.long q2), .second, .val (.long q3), .second, .val (.int (1 : Int32)), .val (.int (own_P p1)), .val (.ref b17), .val (.ref b23_r), .val (.ref b24_t), .val (.long ((-1 : Int64) <<< (((64 : Int32) - (own_P p1)) &&& 0x3f).toInt64)), .second, .val (.long (0 : Int64)), .second] [(.long (f12_0 (own_xs q2 q3)))]))
        refine OGo.step (F' := T36.setTop (mkF m 196 #[.val (.int p0), .val (.int p1), .val (.long q2), .second, .val (.long q3), .second, .val (.int (1 : Int32)), .val (.int (own_P p1)), .val (.ref b17), .val (.ref b23_r), .val (.ref b24_t), .val (.long ((-1 : Int64) <<< (((64 : Int32) - (own_P p1)) &&& 0x3f).toInt64)), .second, .val (.long (0 : Int64)), .second] [(.int (8 : Int32)), (.ref b17)])) (fun t kt => ?_) ?_
        · show Steps p.tables e below (T36.setTop (mkF m 187 #[.val (.int p0), .val (.int p1), .val (.long q2), .second, .val (.long q3), .second, .val (.int (1 : Int32)), .val (.int (own_P p1)), .val (.ref b17), .val (.ref b23_r), .val (.ref b24_t), .val (.long ((-1 : Int64) <<< (((64 : Int32) - (own_P p1)) &&& 0x3f).toInt64)), .second, .val (.long (0 : Int64)), .second] [(.long (f12_0 (own_xs q2 q3)))])) t
          refine XS.lloadN X36.here hx rfl (hb hby at_187) rfl ?_
          show Steps p.tables e below (T36.setTop (mkF m 188 #[.val (.int p0), .val (.int p1), .val (.long q2), .second, .val (.long q3), .second, .val (.int (1 : Int32)), .val (.int (own_P p1)), .val (.ref b17), .val (.ref b23_r), .val (.ref b24_t), .val (.long ((-1 : Int64) <<< (((64 : Int32) - (own_P p1)) &&& 0x3f).toInt64)), .second, .val (.long (0 : Int64)), .second] [(.long q2), (.long (f12_0 (own_xs q2 q3)))])) t
          refine XS.lcmp X36.here hx rfl (hb hby at_188) rfl ?_
          show Steps p.tables e below (T36.setTop (mkF m 189 #[.val (.int p0), .val (.int p1), .val (.long q2), .second, .val (.long q3), .second, .val (.int (1 : Int32)), .val (.int (own_P p1)), .val (.ref b17), .val (.ref b23_r), .val (.ref b24_t), .val (.long ((-1 : Int64) <<< (((64 : Int32) - (own_P p1)) &&& 0x3f).toInt64)), .second, .val (.long (0 : Int64)), .second] [(.int (lcmpW (f12_0 (own_xs q2 q3)) q2))])) t
          refine XS.ifNo X36.here hx rfl (hb hby at_189) rfl ((if0 _ _).trans (teq ((lw_eq _ _).mpr (own_gx0 _ _))).2) ?_
          show Steps p.tables e below (T36.setTop (mkF m 192 #[.val (.int p0), .val (.int p1), .val (.long q2), .second, .val (.long q3), .second, .val (.int (1 : Int32)), .val (.int (own_P p1)), .val (.ref b17), .val (.ref b23_r), .val (.ref b24_t), .val (.long ((-1 : Int64) <<< (((64 : Int32) - (own_P p1)) &&& 0x3f).toInt64)), .second, .val (.long (0 : Int64)), .second] [])) t
          refine XS.aload X36.here hx rfl (hb hby at_192) rfl rfl ?_
          show Steps p.tables e below (T36.setTop (mkF m 194 #[.val (.int p0), .val (.int p1), .val (.long q2), .second, .val (.long q3), .second, .val (.int (1 : Int32)), .val (.int (own_P p1)), .val (.ref b17), .val (.ref b23_r), .val (.ref b24_t), .val (.long ((-1 : Int64) <<< (((64 : Int32) - (own_P p1)) &&& 0x3f).toInt64)), .second, .val (.long (0 : Int64)), .second] [(.ref b17)])) t
          refine XS.bipush X36.here hx rfl (hb hby at_194) ?_
          exact kt
        refine OGo.callS X36 hx hZ (y := (⟨"com/example/veiled_alerts/veiledalerts/model/NetworkContainingPinLaw", "get8", "([BI)J"⟩ : MethodName)) hown (own_wd hw 70 rfl) (own_wd hw 71 rfl) (own_wd hw 4 rfl) (own_wd hw 72 rfl) (by decide) (rm12_8 l Z az hw [] b17 (own_xs q2 q3) T24.heap n0 (Nat.le_trans Z0 KC24.1) ((((O20.ext E21).keep K22 (ninS (Nat.ne_of_lt (Nat.lt_of_lt_of_le O20.lt (Nat.le_of_eq g21.symm))) nin0)).keep K23 nin0).keep K24 nin0) rfl) (W := 0) (by decide) (by decide) (g := (mkF m 196 #[.val (.int p0), .val (.int p1), .val (.long q2), .second, .val (.long q3), .second, .val (.int (1 : Int32)), .val (.int (own_P p1)), .val (.ref b17), .val (.ref b23_r), .val (.ref b24_t), .val (.long ((-1 : Int64) <<< (((64 : Int32) - (own_P p1)) &&& 0x3f).toInt64)), .second, .val (.long (0 : Int64)), .second] [(.int (8 : Int32)), (.ref b17)])) rfl (by rw [hml]; rfl) (argsL := [(.ref b17), (.int (8 : Int32))]) (rest := []) (lenOf pd_0_8 rfl) rfl (by show 2 * 0 + _ ≤ _; exact Nat.le_of_eq rfl) (hb hby at_196) rfl e36 (by decide) (by decide) ?_
        rintro _ T37 L37 X37 ⟨rfl, Nq37, e37⟩
        have N37 := Fr.app N36 Nq37
        show OGo _ _ _ _ _ _ _ (T37.setTop (mkF m 199 #[.val (.int p0), .val (.int p1), .val (.long q2), .second, .val (.long q3), .second, .val (.int (1 : Int32)), .val (.int (own_P p1)), .val (.ref b17), .val (.ref b23_r), .val (.ref b24_t), .val (.long ((-1 : Int64) <<< (((64 : Int32) - (own_P p1)) &&& 0x3f).toInt64)), .second, .val (.long (0 : Int64)), .second] [(.long (f12_8 (own_xs q2 q3)))]))
        refine OGo.step (F' := T37.setTop (mkF m 210 #[.val (.int p0), .val (.int p1), .val (.long q2), .second, .val (.long q3), .second, .val (.int (1 : Int32)), .val (.int (own_P p1)), .val (.ref b17), .val (.ref b23_r), .val (.ref b24_t), .val (.long ((-1 : Int64) <<< (((64 : Int32) - (own_P p1)) &&& 0x3f).toInt64)), .second, .val (.long (0 : Int64)), .second] [(.int (1 : Int32))])) (fun t kt => ?_) ?_
        · show Steps p.tables e below (T37.setTop (mkF m 199 #[.val (.int p0), .val (.int p1), .val (.long q2), .second, .val (.long q3), .second, .val (.int (1 : Int32)), .val (.int (own_P p1)), .val (.ref b17), .val (.ref b23_r), .val (.ref b24_t), .val (.long ((-1 : Int64) <<< (((64 : Int32) - (own_P p1)) &&& 0x3f).toInt64)), .second, .val (.long (0 : Int64)), .second] [(.long (f12_8 (own_xs q2 q3)))])) t
          refine XS.lload X37.here hx rfl (hb hby at_199) rfl ?_
          show Steps p.tables e below (T37.setTop (mkF m 201 #[.val (.int p0), .val (.int p1), .val (.long q2), .second, .val (.long q3), .second, .val (.int (1 : Int32)), .val (.int (own_P p1)), .val (.ref b17), .val (.ref b23_r), .val (.ref b24_t), .val (.long ((-1 : Int64) <<< (((64 : Int32) - (own_P p1)) &&& 0x3f).toInt64)), .second, .val (.long (0 : Int64)), .second] [(.long q3), (.long (f12_8 (own_xs q2 q3)))])) t
          refine XS.lcmp X37.here hx rfl (hb hby at_201) rfl ?_
          show Steps p.tables e below (T37.setTop (mkF m 202 #[.val (.int p0), .val (.int p1), .val (.long q2), .second, .val (.long q3), .second, .val (.int (1 : Int32)), .val (.int (own_P p1)), .val (.ref b17), .val (.ref b23_r), .val (.ref b24_t), .val (.long ((-1 : Int64) <<< (((64 : Int32) - (own_P p1)) &&& 0x3f).toInt64)), .second, .val (.long (0 : Int64)), .second] [(.int (lcmpW (f12_8 (own_xs q2 q3)) q3))])) t
          refine XS.ifNo X37.here hx rfl (hb hby at_202) rfl ((if0 _ _).trans (teq ((lw_eq _ _).mpr (own_gx8 _ _))).2) ?_
          show Steps p.tables e below (T37.setTop (mkF m 205 #[.val (.int p0), .val (.int p1), .val (.long q2), .second, .val (.long q3), .second, .val (.int (1 : Int32)), .val (.int (own_P p1)), .val (.ref b17), .val (.ref b23_r), .val (.ref b24_t), .val (.long ((-1 : Int64) <<< (((64 : Int32) - (own_P p1)) &&& 0x3f).toInt64)), .second, .val (.long (0 : Int64)), .second] [])) t
          refine XS.iconst X37.here hx rfl (hb hby at_205) ?_
          show Steps p.tables e below (T37.setTop (mkF m 206 #[.val (.int p0), .val (.int p1), .val (.long q2), .second, .val (.long q3), .second, .val (.int (1 : Int32)), .val (.int (own_P p1)), .val (.ref b17), .val (.ref b23_r), .val (.ref b24_t), .val (.long ((-1 : Int64) <<< (((64 : Int32) - (own_P p1)) &&& 0x3f).toInt64)), .second, .val (.long (0 : Int64)), .second] [(.int (1 : Int32))])) t
          refine XS.goto X37.here hx rfl (pc0 := 206) (pc' := 210) rfl (hb hby at_206) (by decide) (by decide) ?_
          exact kt
        refine OGo.retZ X37 hx hlk (t := .boolean) (z' := (1 : Int32)) hret (by simp) (hb hby at_210) rfl ?_ (by decide) (by decide)
        show Q0 Z p0 p1 q2 q3 h0 n0 _ T37.heap _
        rw [e37]
        exact ⟨rfl, N37, KC24⟩
      · refine OGo.step (F' := T25.setTop (mkF m 93 #[.val (.int p0), .val (.int p1), .val (.long q2), .second, .val (.long q3), .second, .val (.int (1 : Int32)), .val (.int (own_P p1)), .val (.ref b17), .val (.ref b23_r), .val (.ref b24_t), .unset, .unset, .unset, .unset] [])) (fun t kt => ?_) ?_
        · show Steps p.tables e below (T25.setTop (mkF m 90 #[.val (.int p0), .val (.int p1), .val (.long q2), .second, .val (.long q3), .second, .val (.int (1 : Int32)), .val (.int (own_P p1)), .val (.ref b17), .val (.ref b23_r), .val (.ref b24_t), .unset, .unset, .unset, .unset] [(.int (64 : Int32)), (.int (own_P p1))])) t
          refine XS.icmpNo X25.here hx rfl (hb hby at_90) rfl (flt hc90).1 ?_
          exact kt
        refine OGo.step (F' := T25.setTop (mkF m 114 #[.val (.int p0), .val (.int p1), .val (.long q2), .second, .val (.long q3), .second, .val (.int (1 : Int32)), .val (.int (own_P p1)), .val (.ref b17), .val (.ref b23_r), .val (.ref b24_t), .val (.long (-1 : Int64)), .second, .unset, .unset] [(.int (64 : Int32)), (.int (own_P p1))])) (fun t kt => ?_) ?_
        · show Steps p.tables e below (T25.setTop (mkF m 93 #[.val (.int p0), .val (.int p1), .val (.long q2), .second, .val (.long q3), .second, .val (.int (1 : Int32)), .val (.int (own_P p1)), .val (.ref b17), .val (.ref b23_r), .val (.ref b24_t), .unset, .unset, .unset, .unset] [])) t
          refine X25.ldc2Long hx hown (mvT hZ (own_wd hw 69 rfl)) (g := (mkF m 93 #[.val (.int p0), .val (.int p1), .val (.long q2), .second, .val (.long q3), .second, .val (.int (1 : Int32)), .val (.int (own_P p1)), .val (.ref b17), .val (.ref b23_r), .val (.ref b24_t), .unset, .unset, .unset, .unset] [])) rfl (hb hby at_93) _ ?_
          show Steps p.tables e below (T25.setTop (mkF m 96 #[.val (.int p0), .val (.int p1), .val (.long q2), .second, .val (.long q3), .second, .val (.int (1 : Int32)), .val (.int (own_P p1)), .val (.ref b17), .val (.ref b23_r), .val (.ref b24_t), .unset, .unset, .unset, .unset] [(.long (-1 : Int64))])) t
          refine XS.goto X25.here hx rfl (pc0 := 96) (pc' := 108) rfl (hb hby at_96) (by decide) (by decide) ?_
          show Steps p.tables e below (T25.setTop (mkF m 108 #[.val (.int p0), .val (.int p1), .val (.long q2), .second, .val (.long q3), .second, .val (.int (1 : Int32)), .val (.int (own_P p1)), .val (.ref b17), .val (.ref b23_r), .val (.ref b24_t), .unset, .unset, .unset, .unset] [(.long (-1 : Int64))])) t
          refine XS.lstore X25.here hx rfl (hb hby at_108) rfl (l' := #[.val (.int p0), .val (.int p1), .val (.long q2), .second, .val (.long q3), .second, .val (.int (1 : Int32)), .val (.int (own_P p1)), .val (.ref b17), .val (.ref b23_r), .val (.ref b24_t), .val (.long (-1 : Int64)), .second, .unset, .unset]) rfl ?_
          show Steps p.tables e below (T25.setTop (mkF m 110 #[.val (.int p0), .val (.int p1), .val (.long q2), .second, .val (.long q3), .second, .val (.int (1 : Int32)), .val (.int (own_P p1)), .val (.ref b17), .val (.ref b23_r), .val (.ref b24_t), .val (.long (-1 : Int64)), .second, .unset, .unset] [])) t
          refine XS.iload X25.here hx rfl (hb hby at_110) rfl ?_
          show Steps p.tables e below (T25.setTop (mkF m 112 #[.val (.int p0), .val (.int p1), .val (.long q2), .second, .val (.long q3), .second, .val (.int (1 : Int32)), .val (.int (own_P p1)), .val (.ref b17), .val (.ref b23_r), .val (.ref b24_t), .val (.long (-1 : Int64)), .second, .unset, .unset] [(.int (own_P p1))])) t
          refine XS.bipush X25.here hx rfl (hb hby at_112) ?_
          exact kt
        by_cases hc114 : (64 : Int32) < (own_P p1)
        · refine OGo.step (F' := T25.setTop (mkF m 121 #[.val (.int p0), .val (.int p1), .val (.long q2), .second, .val (.long q3), .second, .val (.int (1 : Int32)), .val (.int (own_P p1)), .val (.ref b17), .val (.ref b23_r), .val (.ref b24_t), .val (.long (-1 : Int64)), .second, .unset, .unset] [])) (fun t kt => ?_) ?_
          · show Steps p.tables e below (T25.setTop (mkF m 114 #[.val (.int p0), .val (.int p1), .val (.long q2), .second, .val (.long q3), .second, .val (.int (1 : Int32)), .val (.int (own_P p1)), .val (.ref b17), .val (.ref b23_r), .val (.ref b24_t), .val (.long (-1 : Int64)), .second, .unset, .unset] [(.int (64 : Int32)), (.int (own_P p1))])) t
            refine XS.icmpYes X25.here hx rfl (pc0 := 114) (pc' := 121) rfl (hb hby at_114) rfl (tlt hc114).2.2.1 (by decide) (by decide) ?_
            exact kt
          refine OGo.step (F' := T25.setTop (mkF m 135 #[.val (.int p0), .val (.int p1), .val (.long q2), .second, .val (.long q3), .second, .val (.int (1 : Int32)), .val (.int (own_P p1)), .val (.ref b17), .val (.ref b23_r), .val (.ref b24_t), .val (.long (-1 : Int64)), .second, .val (.long ((-1 : Int64) <<< (((128 : Int32) - (own_P p1)) &&& 0x3f).toInt64)), .second] [(.ref b23_r)])) (fun t kt => ?_) ?_
          · show Steps p.tables e below (T25.setTop (mkF m 121 #[.val (.int p0), .val (.int p1), .val (.long q2), .second, .val (.long q3), .second, .val (.int (1 : Int32)), .val (.int (own_P p1)), .val (.ref b17), .val (.ref b23_r), .val (.ref b24_t), .val (.long (-1 : Int64)), .second, .unset, .unset] [])) t
            refine X25.ldc2Long hx hown (mvT hZ (own_wd hw 69 rfl)) (g := (mkF m 121 #[.val (.int p0), .val (.int p1), .val (.long q2), .second, .val (.long q3), .second, .val (.int (1 : Int32)), .val (.int (own_P p1)), .val (.ref b17), .val (.ref b23_r), .val (.ref b24_t), .val (.long (-1 : Int64)), .second, .unset, .unset] [])) rfl (hb hby at_121) _ ?_
            show Steps p.tables e below (T25.setTop (mkF m 124 #[.val (.int p0), .val (.int p1), .val (.long q2), .second, .val (.long q3), .second, .val (.int (1 : Int32)), .val (.int (own_P p1)), .val (.ref b17), .val (.ref b23_r), .val (.ref b24_t), .val (.long (-1 : Int64)), .second, .unset, .unset] [(.long (-1 : Int64))])) t
            refine XS.sipush X25.here hx rfl (hb hby at_124) ?_
            show Steps p.tables e below (T25.setTop (mkF m 127 #[.val (.int p0), .val (.int p1), .val (.long q2), .second, .val (.long q3), .second, .val (.int (1 : Int32)), .val (.int (own_P p1)), .val (.ref b17), .val (.ref b23_r), .val (.ref b24_t), .val (.long (-1 : Int64)), .second, .unset, .unset] [(.int (128 : Int32)), (.long (-1 : Int64))])) t
            refine XS.iload X25.here hx rfl (hb hby at_127) rfl ?_
            show Steps p.tables e below (T25.setTop (mkF m 129 #[.val (.int p0), .val (.int p1), .val (.long q2), .second, .val (.long q3), .second, .val (.int (1 : Int32)), .val (.int (own_P p1)), .val (.ref b17), .val (.ref b23_r), .val (.ref b24_t), .val (.long (-1 : Int64)), .second, .unset, .unset] [(.int (own_P p1)), (.int (128 : Int32)), (.long (-1 : Int64))])) t
            refine XS.isub X25.here hx rfl (hb hby at_129) rfl ?_
            show Steps p.tables e below (T25.setTop (mkF m 130 #[.val (.int p0), .val (.int p1), .val (.long q2), .second, .val (.long q3), .second, .val (.int (1 : Int32)), .val (.int (own_P p1)), .val (.ref b17), .val (.ref b23_r), .val (.ref b24_t), .val (.long (-1 : Int64)), .second, .unset, .unset] [(.int ((128 : Int32) - (own_P p1))), (.long (-1 : Int64))])) t
            refine XS.lshl X25.here hx rfl (hb hby at_130) rfl ?_
            show Steps p.tables e below (T25.setTop (mkF m 131 #[.val (.int p0), .val (.int p1), .val (.long q2), .second, .val (.long q3), .second, .val (.int (1 : Int32)), .val (.int (own_P p1)), .val (.ref b17), .val (.ref b23_r), .val (.ref b24_t), .val (.long (-1 : Int64)), .second, .unset, .unset] [(.long ((-1 : Int64) <<< (((128 : Int32) - (own_P p1)) &&& 0x3f).toInt64))])) t
            refine XS.lstore X25.here hx rfl (hb hby at_131) rfl (l' := #[.val (.int p0), .val (.int p1), .val (.long q2), .second, .val (.long q3), .second, .val (.int (1 : Int32)), .val (.int (own_P p1)), .val (.ref b17), .val (.ref b23_r), .val (.ref b24_t), .val (.long (-1 : Int64)), .second, .val (.long ((-1 : Int64) <<< (((128 : Int32) - (own_P p1)) &&& 0x3f).toInt64)), .second]) rfl ?_
            show Steps p.tables e below (T25.setTop (mkF m 133 #[.val (.int p0), .val (.int p1), .val (.long q2), .second, .val (.long q3), .second, .val (.int (1 : Int32)), .val (.int (own_P p1)), .val (.ref b17), .val (.ref b23_r), .val (.ref b24_t), .val (.long (-1 : Int64)), .second, .val (.long ((-1 : Int64) <<< (((128 : Int32) - (own_P p1)) &&& 0x3f).toInt64)), .second] [])) t
            refine XS.aload X25.here hx rfl (hb hby at_133) rfl rfl ?_
            exact kt
          refine OGo.callV X25 hx hZ (y := (⟨"com/example/veiled_alerts/veiledalerts/model/Network", "prefixLength", "()I"⟩ : MethodName)) (z := (⟨"com/example/veiled_alerts/veiledalerts/model/Network", "prefixLength", "()I"⟩ : MethodName)) hown (own_wd hw 58 rfl) (own_wd hw 59 rfl) (notFace_of_selects (args := #[]) (mvT hZ (own_wd hw 61 rfl))) (own_wd hw 61 rfl) (own_wd hw 60 rfl) (own_wd hw 19 rfl) (own_wd hw 62 rfl) (by decide) (rm9 l Z az hw [] b23_r (own_P p1) T24.heap n0 (Nat.le_trans Z0 KC24.1) (P23_2.keep K24 nin0)) (W := 0) (by decide) (by decide) (P23_0.keep K24) (g := (mkF m 135 #[.val (.int p0), .val (.int p1), .val (.long q2), .second, .val (.long q3), .second, .val (.int (1 : Int32)), .val (.int (own_P p1)), .val (.ref b17), .val (.ref b23_r), .val (.ref b24_t), .val (.long (-1 : Int64)), .second, .val (.long ((-1 : Int64) <<< (((128 : Int32) - (own_P p1)) &&& 0x3f).toInt64)), .second] [(.ref b23_r)])) rfl (by rw [hml]; rfl) (argsL := []) (rest := []) (lenOf pd_0_5 rfl) rfl (by show 2 * 0 + _ ≤ _; exact Nat.le_of_eq rfl) (hb hby at_135) rfl e25 (by decide) (by decide) ?_
          rintro _ T38 L38 X38 ⟨hv38, Nq38, e38⟩
          have N38 := Fr.app N25 Nq38
          rw [show (f9 (own_P p1)) = (own_P p1) from rfl] at hv38
          subst hv38
          show OGo _ _ _ _ _ _ _ (T38.setTop (mkF m 138 #[.val (.int p0), .val (.int p1), .val (.long q2), .second, .val (.long q3), .second, .val (.int (1 : Int32)), .val (.int (own_P p1)), .val (.ref b17), .val (.ref b23_r), .val (.ref b24_t), .val (.long (-1 : Int64)), .second, .val (.long ((-1 : Int64) <<< (((128 : Int32) - (own_P p1)) &&& 0x3f).toInt64)), .second] [(.int (own_P p1))]))
          refine OGo.step (F' := T38.setTop (mkF m 145 #[.val (.int p0), .val (.int p1), .val (.long q2), .second, .val (.long q3), .second, .val (.int (1 : Int32)), .val (.int (own_P p1)), .val (.ref b17), .val (.ref b23_r), .val (.ref b24_t), .val (.long (-1 : Int64)), .second, .val (.long ((-1 : Int64) <<< (((128 : Int32) - (own_P p1)) &&& 0x3f).toInt64)), .second] [(.ref b24_t)])) (fun t kt => ?_) ?_
          · show Steps p.tables e below (T38.setTop (mkF m 138 #[.val (.int p0), .val (.int p1), .val (.long q2), .second, .val (.long q3), .second, .val (.int (1 : Int32)), .val (.int (own_P p1)), .val (.ref b17), .val (.ref b23_r), .val (.ref b24_t), .val (.long (-1 : Int64)), .second, .val (.long ((-1 : Int64) <<< (((128 : Int32) - (own_P p1)) &&& 0x3f).toInt64)), .second] [(.int (own_P p1))])) t
            refine XS.iload X38.here hx rfl (hb hby at_138) rfl ?_
            show Steps p.tables e below (T38.setTop (mkF m 140 #[.val (.int p0), .val (.int p1), .val (.long q2), .second, .val (.long q3), .second, .val (.int (1 : Int32)), .val (.int (own_P p1)), .val (.ref b17), .val (.ref b23_r), .val (.ref b24_t), .val (.long (-1 : Int64)), .second, .val (.long ((-1 : Int64) <<< (((128 : Int32) - (own_P p1)) &&& 0x3f).toInt64)), .second] [(.int (own_P p1)), (.int (own_P p1))])) t
            refine XS.icmpNo X38.here hx rfl (hb hby at_140) rfl (teq (rfl : (own_P p1) = (own_P p1))).2 ?_
            show Steps p.tables e below (T38.setTop (mkF m 143 #[.val (.int p0), .val (.int p1), .val (.long q2), .second, .val (.long q3), .second, .val (.int (1 : Int32)), .val (.int (own_P p1)), .val (.ref b17), .val (.ref b23_r), .val (.ref b24_t), .val (.long (-1 : Int64)), .second, .val (.long ((-1 : Int64) <<< (((128 : Int32) - (own_P p1)) &&& 0x3f).toInt64)), .second] [])) t
            refine XS.aload X38.here hx rfl (hb hby at_143) rfl rfl ?_
            exact kt
          obtain ⟨kk39, cl39, Ar39, qz39, S39, N39a, H39, G39⟩ := id (P24_3)
          refine OGo.step (F' := T38.setTop (mkF m 146 #[.val (.int p0), .val (.int p1), .val (.long q2), .second, .val (.long q3), .second, .val (.int (1 : Int32)), .val (.int (own_P p1)), .val (.ref b17), .val (.ref b23_r), .val (.ref b24_t), .val (.long (-1 : Int64)), .second, .val (.long ((-1 : Int64) <<< (((128 : Int32) - (own_P p1)) &&& 0x3f).toInt64)), .second] [(.int (Int32.ofNat (own_clr (own_P p1) (own_xs q2 q3)).length))])) (fun t kt => ?_) ?_
          · show Steps p.tables e below (T38.setTop (mkF m 145 #[.val (.int p0), .val (.int p1), .val (.long q2), .second, .val (.long q3), .second, .val (.int (1 : Int32)), .val (.int (own_P p1)), .val (.ref b17), .val (.ref b23_r), .val (.ref b24_t), .val (.long (-1 : Int64)), .second, .val (.long ((-1 : Int64) <<< (((128 : Int32) - (own_P p1)) &&& 0x3f).toInt64)), .second] [(.ref b24_t)])) t
            refine X38.arraylength hx (by rw [e38]; exact Ar39.1) (State.isArrayOf_alike hZ.alike Ar39.2.1) (g := (mkF m 145 #[.val (.int p0), .val (.int p1), .val (.long q2), .second, .val (.long q3), .second, .val (.int (1 : Int32)), .val (.int (own_P p1)), .val (.ref b17), .val (.ref b23_r), .val (.ref b24_t), .val (.long (-1 : Int64)), .second, .val (.long ((-1 : Int64) <<< (((128 : Int32) - (own_P p1)) &&& 0x3f).toInt64)), .second] [(.ref b24_t)])) rfl rfl (hb hby at_145) _ ?_
            rw [len_of S39 N39a]
            exact kt
          refine OGo.step (F' := T38.setTop (mkF m 154 #[.val (.int p0), .val (.int p1), .val (.long q2), .second, .val (.long q3), .second, .val (.int (1 : Int32)), .val (.int (own_P p1)), .val (.ref b17), .val (.ref b23_r), .val (.ref b24_t), .val (.long (-1 : Int64)), .second, .val (.long ((-1 : Int64) <<< (((128 : Int32) - (own_P p1)) &&& 0x3f).toInt64)), .second] [(.int (0 : Int32)), (.ref b24_t)])) (fun t kt => ?_) ?_
          · show Steps p.tables e below (T38.setTop (mkF m 146 #[.val (.int p0), .val (.int p1), .val (.long q2), .second, .val (.long q3), .second, .val (.int (1 : Int32)), .val (.int (own_P p1)), .val (.ref b17), .val (.ref b23_r), .val (.ref b24_t), .val (.long (-1 : Int64)), .second, .val (.long ((-1 : Int64) <<< (((128 : Int32) - (own_P p1)) &&& 0x3f).toInt64)), .second] [(.int (Int32.ofNat (own_clr (own_P p1) (own_xs q2 q3)).length))])) t
            refine XS.bipush X38.here hx rfl (hb hby at_146) ?_
            show Steps p.tables e below (T38.setTop (mkF m 148 #[.val (.int p0), .val (.int p1), .val (.long q2), .second, .val (.long q3), .second, .val (.int (1 : Int32)), .val (.int (own_P p1)), .val (.ref b17), .val (.ref b23_r), .val (.ref b24_t), .val (.long (-1 : Int64)), .second, .val (.long ((-1 : Int64) <<< (((128 : Int32) - (own_P p1)) &&& 0x3f).toInt64)), .second] [(.int (16 : Int32)), (.int (Int32.ofNat (own_clr (own_P p1) (own_xs q2 q3)).length))])) t
            refine XS.icmpNo X38.here hx rfl (hb hby at_148) rfl (teq (own_l16 _ _ _)).2 ?_
            show Steps p.tables e below (T38.setTop (mkF m 151 #[.val (.int p0), .val (.int p1), .val (.long q2), .second, .val (.long q3), .second, .val (.int (1 : Int32)), .val (.int (own_P p1)), .val (.ref b17), .val (.ref b23_r), .val (.ref b24_t), .val (.long (-1 : Int64)), .second, .val (.long ((-1 : Int64) <<< (((128 : Int32) - (own_P p1)) &&& 0x3f).toInt64)), .second] [])) t
            refine XS.aload X38.here hx rfl (hb hby at_151) rfl rfl ?_
            show Steps p.tables e below (T38.setTop (mkF m 153 #[.val (.int p0), .val (.int p1), .val (.long q2), .second, .val (.long q3), .second, .val (.int (1 : Int32)), .val (.int (own_P p1)), .val (.ref b17), .val (.ref b23_r), .val (.ref b24_t), .val (.long (-1 : Int64)), .second, .val (.long ((-1 : Int64) <<< (((128 : Int32) - (own_P p1)) &&& 0x3f).toInt64)), .second] [(.ref b24_t)])) t
            refine XS.iconst X38.here hx rfl (hb hby at_153) ?_
            exact kt
          refine OGo.callS X38 hx hZ (y := (⟨"com/example/veiled_alerts/veiledalerts/model/NetworkContainingPinLaw", "get8", "([BI)J"⟩ : MethodName)) hown (own_wd hw 70 rfl) (own_wd hw 71 rfl) (own_wd hw 4 rfl) (own_wd hw 72 rfl) (by decide) (rm12_0 l Z az hw [] b24_t (own_clr (own_P p1) (own_xs q2 q3)) T24.heap n0 (Nat.le_trans Z0 KC24.1) P24_3 (own_clrl _ _)) (W := 0) (by decide) (by decide) (g := (mkF m 154 #[.val (.int p0), .val (.int p1), .val (.long q2), .second, .val (.long q3), .second, .val (.int (1 : Int32)), .val (.int (own_P p1)), .val (.ref b17), .val (.ref b23_r), .val (.ref b24_t), .val (.long (-1 : Int64)), .second, .val (.long ((-1 : Int64) <<< (((128 : Int32) - (own_P p1)) &&& 0x3f).toInt64)), .second] [(.int (0 : Int32)), (.ref b24_t)])) rfl (by rw [hml]; rfl) (argsL := [(.ref b24_t), (.int (0 : Int32))]) (rest := []) (lenOf pd_0_8 rfl) rfl (by show 2 * 0 + _ ≤ _; exact Nat.le_of_eq rfl) (hb hby at_154) rfl e38 (by decide) (by decide) ?_
          rintro _ T40 L40 X40 ⟨rfl, Nq40, e40⟩
          have N40 := Fr.app N38 Nq40
          show OGo _ _ _ _ _ _ _ (T40.setTop (mkF m 157 #[.val (.int p0), .val (.int p1), .val (.long q2), .second, .val (.long q3), .second, .val (.int (1 : Int32)), .val (.int (own_P p1)), .val (.ref b17), .val (.ref b23_r), .val (.ref b24_t), .val (.long (-1 : Int64)), .second, .val (.long ((-1 : Int64) <<< (((128 : Int32) - (own_P p1)) &&& 0x3f).toInt64)), .second] [(.long (f12_0 (own_clr (own_P p1) (own_xs q2 q3))))]))
          refine OGo.step (F' := T40.setTop (mkF m 169 #[.val (.int p0), .val (.int p1), .val (.long q2), .second, .val (.long q3), .second, .val (.int (1 : Int32)), .val (.int (own_P p1)), .val (.ref b17), .val (.ref b23_r), .val (.ref b24_t), .val (.long (-1 : Int64)), .second, .val (.long ((-1 : Int64) <<< (((128 : Int32) - (own_P p1)) &&& 0x3f).toInt64)), .second] [(.int (8 : Int32)), (.ref b24_t)])) (fun t kt => ?_) ?_
          · show Steps p.tables e below (T40.setTop (mkF m 157 #[.val (.int p0), .val (.int p1), .val (.long q2), .second, .val (.long q3), .second, .val (.int (1 : Int32)), .val (.int (own_P p1)), .val (.ref b17), .val (.ref b23_r), .val (.ref b24_t), .val (.long (-1 : Int64)), .second, .val (.long ((-1 : Int64) <<< (((128 : Int32) - (own_P p1)) &&& 0x3f).toInt64)), .second] [(.long (f12_0 (own_clr (own_P p1) (own_xs q2 q3))))])) t
            refine XS.lloadN X40.here hx rfl (hb hby at_157) rfl ?_
            show Steps p.tables e below (T40.setTop (mkF m 158 #[.val (.int p0), .val (.int p1), .val (.long q2), .second, .val (.long q3), .second, .val (.int (1 : Int32)), .val (.int (own_P p1)), .val (.ref b17), .val (.ref b23_r), .val (.ref b24_t), .val (.long (-1 : Int64)), .second, .val (.long ((-1 : Int64) <<< (((128 : Int32) - (own_P p1)) &&& 0x3f).toInt64)), .second] [(.long q2), (.long (f12_0 (own_clr (own_P p1) (own_xs q2 q3))))])) t
            refine XS.lload X40.here hx rfl (hb hby at_158) rfl ?_
            show Steps p.tables e below (T40.setTop (mkF m 160 #[.val (.int p0), .val (.int p1), .val (.long q2), .second, .val (.long q3), .second, .val (.int (1 : Int32)), .val (.int (own_P p1)), .val (.ref b17), .val (.ref b23_r), .val (.ref b24_t), .val (.long (-1 : Int64)), .second, .val (.long ((-1 : Int64) <<< (((128 : Int32) - (own_P p1)) &&& 0x3f).toInt64)), .second] [(.long (-1 : Int64)), (.long q2), (.long (f12_0 (own_clr (own_P p1) (own_xs q2 q3))))])) t
            refine XS.land X40.here hx rfl (hb hby at_160) rfl ?_
            show Steps p.tables e below (T40.setTop (mkF m 161 #[.val (.int p0), .val (.int p1), .val (.long q2), .second, .val (.long q3), .second, .val (.int (1 : Int32)), .val (.int (own_P p1)), .val (.ref b17), .val (.ref b23_r), .val (.ref b24_t), .val (.long (-1 : Int64)), .second, .val (.long ((-1 : Int64) <<< (((128 : Int32) - (own_P p1)) &&& 0x3f).toInt64)), .second] [(.long (q2 &&& (-1 : Int64))), (.long (f12_0 (own_clr (own_P p1) (own_xs q2 q3))))])) t
            refine XS.lcmp X40.here hx rfl (hb hby at_161) rfl ?_
            show Steps p.tables e below (T40.setTop (mkF m 162 #[.val (.int p0), .val (.int p1), .val (.long q2), .second, .val (.long q3), .second, .val (.int (1 : Int32)), .val (.int (own_P p1)), .val (.ref b17), .val (.ref b23_r), .val (.ref b24_t), .val (.long (-1 : Int64)), .second, .val (.long ((-1 : Int64) <<< (((128 : Int32) - (own_P p1)) &&& 0x3f).toInt64)), .second] [(.int (lcmpW (f12_0 (own_clr (own_P p1) (own_xs q2 q3))) (q2 &&& (-1 : Int64))))])) t
            refine XS.ifNo X40.here hx rfl (hb hby at_162) rfl ((if0 _ _).trans (teq ((lw_eq _ _).mpr (own_h2 _ _ _ hc90))).2) ?_
            show Steps p.tables e below (T40.setTop (mkF m 165 #[.val (.int p0), .val (.int p1), .val (.long q2), .second, .val (.long q3), .second, .val (.int (1 : Int32)), .val (.int (own_P p1)), .val (.ref b17), .val (.ref b23_r), .val (.ref b24_t), .val (.long (-1 : Int64)), .second, .val (.long ((-1 : Int64) <<< (((128 : Int32) - (own_P p1)) &&& 0x3f).toInt64)), .second] [])) t
            refine XS.aload X40.here hx rfl (hb hby at_165) rfl rfl ?_
            show Steps p.tables e below (T40.setTop (mkF m 167 #[.val (.int p0), .val (.int p1), .val (.long q2), .second, .val (.long q3), .second, .val (.int (1 : Int32)), .val (.int (own_P p1)), .val (.ref b17), .val (.ref b23_r), .val (.ref b24_t), .val (.long (-1 : Int64)), .second, .val (.long ((-1 : Int64) <<< (((128 : Int32) - (own_P p1)) &&& 0x3f).toInt64)), .second] [(.ref b24_t)])) t
            refine XS.bipush X40.here hx rfl (hb hby at_167) ?_
            exact kt
          refine OGo.callS X40 hx hZ (y := (⟨"com/example/veiled_alerts/veiledalerts/model/NetworkContainingPinLaw", "get8", "([BI)J"⟩ : MethodName)) hown (own_wd hw 70 rfl) (own_wd hw 71 rfl) (own_wd hw 4 rfl) (own_wd hw 72 rfl) (by decide) (rm12_8 l Z az hw [] b24_t (own_clr (own_P p1) (own_xs q2 q3)) T24.heap n0 (Nat.le_trans Z0 KC24.1) P24_3 (own_clrl _ _)) (W := 0) (by decide) (by decide) (g := (mkF m 169 #[.val (.int p0), .val (.int p1), .val (.long q2), .second, .val (.long q3), .second, .val (.int (1 : Int32)), .val (.int (own_P p1)), .val (.ref b17), .val (.ref b23_r), .val (.ref b24_t), .val (.long (-1 : Int64)), .second, .val (.long ((-1 : Int64) <<< (((128 : Int32) - (own_P p1)) &&& 0x3f).toInt64)), .second] [(.int (8 : Int32)), (.ref b24_t)])) rfl (by rw [hml]; rfl) (argsL := [(.ref b24_t), (.int (8 : Int32))]) (rest := []) (lenOf pd_0_8 rfl) rfl (by show 2 * 0 + _ ≤ _; exact Nat.le_of_eq rfl) (hb hby at_169) rfl e40 (by decide) (by decide) ?_
          rintro _ T41 L41 X41 ⟨rfl, Nq41, e41⟩
          have N41 := Fr.app N40 Nq41
          show OGo _ _ _ _ _ _ _ (T41.setTop (mkF m 172 #[.val (.int p0), .val (.int p1), .val (.long q2), .second, .val (.long q3), .second, .val (.int (1 : Int32)), .val (.int (own_P p1)), .val (.ref b17), .val (.ref b23_r), .val (.ref b24_t), .val (.long (-1 : Int64)), .second, .val (.long ((-1 : Int64) <<< (((128 : Int32) - (own_P p1)) &&& 0x3f).toInt64)), .second] [(.long (f12_8 (own_clr (own_P p1) (own_xs q2 q3))))]))
          refine OGo.step (F' := T41.setTop (mkF m 184 #[.val (.int p0), .val (.int p1), .val (.long q2), .second, .val (.long q3), .second, .val (.int (1 : Int32)), .val (.int (own_P p1)), .val (.ref b17), .val (.ref b23_r), .val (.ref b24_t), .val (.long (-1 : Int64)), .second, .val (.long ((-1 : Int64) <<< (((128 : Int32) - (own_P p1)) &&& 0x3f).toInt64)), .second] [(.int (0 : Int32)), (.ref b17)])) (fun t kt => ?_) ?_
          · show Steps p.tables e below (T41.setTop (mkF m 172 #[.val (.int p0), .val (.int p1), .val (.long q2), .second, .val (.long q3), .second, .val (.int (1 : Int32)), .val (.int (own_P p1)), .val (.ref b17), .val (.ref b23_r), .val (.ref b24_t), .val (.long (-1 : Int64)), .second, .val (.long ((-1 : Int64) <<< (((128 : Int32) - (own_P p1)) &&& 0x3f).toInt64)), .second] [(.long (f12_8 (own_clr (own_P p1) (own_xs q2 q3))))])) t
            refine XS.lload X41.here hx rfl (hb hby at_172) rfl ?_
            show Steps p.tables e below (T41.setTop (mkF m 174 #[.val (.int p0), .val (.int p1), .val (.long q2), .second, .val (.long q3), .second, .val (.int (1 : Int32)), .val (.int (own_P p1)), .val (.ref b17), .val (.ref b23_r), .val (.ref b24_t), .val (.long (-1 : Int64)), .second, .val (.long ((-1 : Int64) <<< (((128 : Int32) - (own_P p1)) &&& 0x3f).toInt64)), .second] [(.long q3), (.long (f12_8 (own_clr (own_P p1) (own_xs q2 q3))))])) t
            refine XS.lload X41.here hx rfl (hb hby at_174) rfl ?_
            show Steps p.tables e below (T41.setTop (mkF m 176 #[.val (.int p0), .val (.int p1), .val (.long q2), .second, .val (.long q3), .second, .val (.int (1 : Int32)), .val (.int (own_P p1)), .val (.ref b17), .val (.ref b23_r), .val (.ref b24_t), .val (.long (-1 : Int64)), .second, .val (.long ((-1 : Int64) <<< (((128 : Int32) - (own_P p1)) &&& 0x3f).toInt64)), .second] [(.long ((-1 : Int64) <<< (((128 : Int32) - (own_P p1)) &&& 0x3f).toInt64)), (.long q3), (.long (f12_8 (own_clr (own_P p1) (own_xs q2 q3))))])) t
            refine XS.land X41.here hx rfl (hb hby at_176) rfl ?_
            show Steps p.tables e below (T41.setTop (mkF m 177 #[.val (.int p0), .val (.int p1), .val (.long q2), .second, .val (.long q3), .second, .val (.int (1 : Int32)), .val (.int (own_P p1)), .val (.ref b17), .val (.ref b23_r), .val (.ref b24_t), .val (.long (-1 : Int64)), .second, .val (.long ((-1 : Int64) <<< (((128 : Int32) - (own_P p1)) &&& 0x3f).toInt64)), .second] [(.long (q3 &&& ((-1 : Int64) <<< (((128 : Int32) - (own_P p1)) &&& 0x3f).toInt64))), (.long (f12_8 (own_clr (own_P p1) (own_xs q2 q3))))])) t
            refine XS.lcmp X41.here hx rfl (hb hby at_177) rfl ?_
            show Steps p.tables e below (T41.setTop (mkF m 178 #[.val (.int p0), .val (.int p1), .val (.long q2), .second, .val (.long q3), .second, .val (.int (1 : Int32)), .val (.int (own_P p1)), .val (.ref b17), .val (.ref b23_r), .val (.ref b24_t), .val (.long (-1 : Int64)), .second, .val (.long ((-1 : Int64) <<< (((128 : Int32) - (own_P p1)) &&& 0x3f).toInt64)), .second] [(.int (lcmpW (f12_8 (own_clr (own_P p1) (own_xs q2 q3))) (q3 &&& ((-1 : Int64) <<< (((128 : Int32) - (own_P p1)) &&& 0x3f).toInt64))))])) t
            refine XS.ifNo X41.here hx rfl (hb hby at_178) rfl ((if0 _ _).trans (teq ((lw_eq _ _).mpr (own_l2 _ _ _ hc114))).2) ?_
            show Steps p.tables e below (T41.setTop (mkF m 181 #[.val (.int p0), .val (.int p1), .val (.long q2), .second, .val (.long q3), .second, .val (.int (1 : Int32)), .val (.int (own_P p1)), .val (.ref b17), .val (.ref b23_r), .val (.ref b24_t), .val (.long (-1 : Int64)), .second, .val (.long ((-1 : Int64) <<< (((128 : Int32) - (own_P p1)) &&& 0x3f).toInt64)), .second] [])) t
            refine XS.aload X41.here hx rfl (hb hby at_181) rfl rfl ?_
            show Steps p.tables e below (T41.setTop (mkF m 183 #[.val (.int p0), .val (.int p1), .val (.long q2), .second, .val (.long q3), .second, .val (.int (1 : Int32)), .val (.int (own_P p1)), .val (.ref b17), .val (.ref b23_r), .val (.ref b24_t), .val (.long (-1 : Int64)), .second, .val (.long ((-1 : Int64) <<< (((128 : Int32) - (own_P p1)) &&& 0x3f).toInt64)), .second] [(.ref b17)])) t
            refine XS.iconst X41.here hx rfl (hb hby at_183) ?_
            exact kt
          refine OGo.callS X41 hx hZ (y := (⟨"com/example/veiled_alerts/veiledalerts/model/NetworkContainingPinLaw", "get8", "([BI)J"⟩ : MethodName)) hown (own_wd hw 70 rfl) (own_wd hw 71 rfl) (own_wd hw 4 rfl) (own_wd hw 72 rfl) (by decide) (rm12_0 l Z az hw [] b17 (own_xs q2 q3) T24.heap n0 (Nat.le_trans Z0 KC24.1) ((((O20.ext E21).keep K22 (ninS (Nat.ne_of_lt (Nat.lt_of_lt_of_le O20.lt (Nat.le_of_eq g21.symm))) nin0)).keep K23 nin0).keep K24 nin0) rfl) (W := 0) (by decide) (by decide) (g := (mkF m 184 #[.val (.int p0), .val (.int p1), .val (.long q2), .second, .val (.long q3), .second, .val (.int (1 : Int32)), .val (.int (own_P p1)), .val (.ref b17), .val (.ref b23_r), .val (.ref b24_t), .val (.long (-1 : Int64)), .second, .val (.long ((-1 : Int64) <<< (((128 : Int32) - (own_P p1)) &&& 0x3f).toInt64)), .second] [(.int (0 : Int32)), (.ref b17)])) rfl (by rw [hml]; rfl) (argsL := [(.ref b17), (.int (0 : Int32))]) (rest := []) (lenOf pd_0_8 rfl) rfl (by show 2 * 0 + _ ≤ _; exact Nat.le_of_eq rfl) (hb hby at_184) rfl e41 (by decide) (by decide) ?_
          rintro _ T42 L42 X42 ⟨rfl, Nq42, e42⟩
          have N42 := Fr.app N41 Nq42
          show OGo _ _ _ _ _ _ _ (T42.setTop (mkF m 187 #[.val (.int p0), .val (.int p1), .val (.long q2), .second, .val (.long q3), .second, .val (.int (1 : Int32)), .val (.int (own_P p1)), .val (.ref b17), .val (.ref b23_r), .val (.ref b24_t), .val (.long (-1 : Int64)), .second, .val (.long ((-1 : Int64) <<< (((128 : Int32) - (own_P p1)) &&& 0x3f).toInt64)), .second] [(.long (f12_0 (own_xs q2 q3)))]))
          refine OGo.step (F' := T42.setTop (mkF m 196 #[.val (.int p0), .val (.int p1), .val (.long q2), .second, .val (.long q3), .second, .val (.int (1 : Int32)), .val (.int (own_P p1)), .val (.ref b17), .val (.ref b23_r), .val (.ref b24_t), .val (.long (-1 : Int64)), .second, .val (.long ((-1 : Int64) <<< (((128 : Int32) - (own_P p1)) &&& 0x3f).toInt64)), .second] [(.int (8 : Int32)), (.ref b17)])) (fun t kt => ?_) ?_
          · show Steps p.tables e below (T42.setTop (mkF m 187 #[.val (.int p0), .val (.int p1), .val (.long q2), .second, .val (.long q3), .second, .val (.int (1 : Int32)), .val (.int (own_P p1)), .val (.ref b17), .val (.ref b23_r), .val (.ref b24_t), .val (.long (-1 : Int64)), .second, .val (.long ((-1 : Int64) <<< (((128 : Int32) - (own_P p1)) &&& 0x3f).toInt64)), .second] [(.long (f12_0 (own_xs q2 q3)))])) t
            refine XS.lloadN X42.here hx rfl (hb hby at_187) rfl ?_
            show Steps p.tables e below (T42.setTop (mkF m 188 #[.val (.int p0), .val (.int p1), .val (.long q2), .second, .val (.long q3), .second, .val (.int (1 : Int32)), .val (.int (own_P p1)), .val (.ref b17), .val (.ref b23_r), .val (.ref b24_t), .val (.long (-1 : Int64)), .second, .val (.long ((-1 : Int64) <<< (((128 : Int32) - (own_P p1)) &&& 0x3f).toInt64)), .second] [(.long q2), (.long (f12_0 (own_xs q2 q3)))])) t
            refine XS.lcmp X42.here hx rfl (hb hby at_188) rfl ?_
            show Steps p.tables e below (T42.setTop (mkF m 189 #[.val (.int p0), .val (.int p1), .val (.long q2), .second, .val (.long q3), .second, .val (.int (1 : Int32)), .val (.int (own_P p1)), .val (.ref b17), .val (.ref b23_r), .val (.ref b24_t), .val (.long (-1 : Int64)), .second, .val (.long ((-1 : Int64) <<< (((128 : Int32) - (own_P p1)) &&& 0x3f).toInt64)), .second] [(.int (lcmpW (f12_0 (own_xs q2 q3)) q2))])) t
            refine XS.ifNo X42.here hx rfl (hb hby at_189) rfl ((if0 _ _).trans (teq ((lw_eq _ _).mpr (own_gx0 _ _))).2) ?_
            show Steps p.tables e below (T42.setTop (mkF m 192 #[.val (.int p0), .val (.int p1), .val (.long q2), .second, .val (.long q3), .second, .val (.int (1 : Int32)), .val (.int (own_P p1)), .val (.ref b17), .val (.ref b23_r), .val (.ref b24_t), .val (.long (-1 : Int64)), .second, .val (.long ((-1 : Int64) <<< (((128 : Int32) - (own_P p1)) &&& 0x3f).toInt64)), .second] [])) t
            refine XS.aload X42.here hx rfl (hb hby at_192) rfl rfl ?_
            show Steps p.tables e below (T42.setTop (mkF m 194 #[.val (.int p0), .val (.int p1), .val (.long q2), .second, .val (.long q3), .second, .val (.int (1 : Int32)), .val (.int (own_P p1)), .val (.ref b17), .val (.ref b23_r), .val (.ref b24_t), .val (.long (-1 : Int64)), .second, .val (.long ((-1 : Int64) <<< (((128 : Int32) - (own_P p1)) &&& 0x3f).toInt64)), .second] [(.ref b17)])) t
            refine XS.bipush X42.here hx rfl (hb hby at_194) ?_
            exact kt
          refine OGo.callS X42 hx hZ (y := (⟨"com/example/veiled_alerts/veiledalerts/model/NetworkContainingPinLaw", "get8", "([BI)J"⟩ : MethodName)) hown (own_wd hw 70 rfl) (own_wd hw 71 rfl) (own_wd hw 4 rfl) (own_wd hw 72 rfl) (by decide) (rm12_8 l Z az hw [] b17 (own_xs q2 q3) T24.heap n0 (Nat.le_trans Z0 KC24.1) ((((O20.ext E21).keep K22 (ninS (Nat.ne_of_lt (Nat.lt_of_lt_of_le O20.lt (Nat.le_of_eq g21.symm))) nin0)).keep K23 nin0).keep K24 nin0) rfl) (W := 0) (by decide) (by decide) (g := (mkF m 196 #[.val (.int p0), .val (.int p1), .val (.long q2), .second, .val (.long q3), .second, .val (.int (1 : Int32)), .val (.int (own_P p1)), .val (.ref b17), .val (.ref b23_r), .val (.ref b24_t), .val (.long (-1 : Int64)), .second, .val (.long ((-1 : Int64) <<< (((128 : Int32) - (own_P p1)) &&& 0x3f).toInt64)), .second] [(.int (8 : Int32)), (.ref b17)])) rfl (by rw [hml]; rfl) (argsL := [(.ref b17), (.int (8 : Int32))]) (rest := []) (lenOf pd_0_8 rfl) rfl (by show 2 * 0 + _ ≤ _; exact Nat.le_of_eq rfl) (hb hby at_196) rfl e42 (by decide) (by decide) ?_
          rintro _ T43 L43 X43 ⟨rfl, Nq43, e43⟩
          have N43 := Fr.app N42 Nq43
          show OGo _ _ _ _ _ _ _ (T43.setTop (mkF m 199 #[.val (.int p0), .val (.int p1), .val (.long q2), .second, .val (.long q3), .second, .val (.int (1 : Int32)), .val (.int (own_P p1)), .val (.ref b17), .val (.ref b23_r), .val (.ref b24_t), .val (.long (-1 : Int64)), .second, .val (.long ((-1 : Int64) <<< (((128 : Int32) - (own_P p1)) &&& 0x3f).toInt64)), .second] [(.long (f12_8 (own_xs q2 q3)))]))
          refine OGo.step (F' := T43.setTop (mkF m 210 #[.val (.int p0), .val (.int p1), .val (.long q2), .second, .val (.long q3), .second, .val (.int (1 : Int32)), .val (.int (own_P p1)), .val (.ref b17), .val (.ref b23_r), .val (.ref b24_t), .val (.long (-1 : Int64)), .second, .val (.long ((-1 : Int64) <<< (((128 : Int32) - (own_P p1)) &&& 0x3f).toInt64)), .second] [(.int (1 : Int32))])) (fun t kt => ?_) ?_
          · show Steps p.tables e below (T43.setTop (mkF m 199 #[.val (.int p0), .val (.int p1), .val (.long q2), .second, .val (.long q3), .second, .val (.int (1 : Int32)), .val (.int (own_P p1)), .val (.ref b17), .val (.ref b23_r), .val (.ref b24_t), .val (.long (-1 : Int64)), .second, .val (.long ((-1 : Int64) <<< (((128 : Int32) - (own_P p1)) &&& 0x3f).toInt64)), .second] [(.long (f12_8 (own_xs q2 q3)))])) t
            refine XS.lload X43.here hx rfl (hb hby at_199) rfl ?_
            show Steps p.tables e below (T43.setTop (mkF m 201 #[.val (.int p0), .val (.int p1), .val (.long q2), .second, .val (.long q3), .second, .val (.int (1 : Int32)), .val (.int (own_P p1)), .val (.ref b17), .val (.ref b23_r), .val (.ref b24_t), .val (.long (-1 : Int64)), .second, .val (.long ((-1 : Int64) <<< (((128 : Int32) - (own_P p1)) &&& 0x3f).toInt64)), .second] [(.long q3), (.long (f12_8 (own_xs q2 q3)))])) t
            refine XS.lcmp X43.here hx rfl (hb hby at_201) rfl ?_
            show Steps p.tables e below (T43.setTop (mkF m 202 #[.val (.int p0), .val (.int p1), .val (.long q2), .second, .val (.long q3), .second, .val (.int (1 : Int32)), .val (.int (own_P p1)), .val (.ref b17), .val (.ref b23_r), .val (.ref b24_t), .val (.long (-1 : Int64)), .second, .val (.long ((-1 : Int64) <<< (((128 : Int32) - (own_P p1)) &&& 0x3f).toInt64)), .second] [(.int (lcmpW (f12_8 (own_xs q2 q3)) q3))])) t
            refine XS.ifNo X43.here hx rfl (hb hby at_202) rfl ((if0 _ _).trans (teq ((lw_eq _ _).mpr (own_gx8 _ _))).2) ?_
            show Steps p.tables e below (T43.setTop (mkF m 205 #[.val (.int p0), .val (.int p1), .val (.long q2), .second, .val (.long q3), .second, .val (.int (1 : Int32)), .val (.int (own_P p1)), .val (.ref b17), .val (.ref b23_r), .val (.ref b24_t), .val (.long (-1 : Int64)), .second, .val (.long ((-1 : Int64) <<< (((128 : Int32) - (own_P p1)) &&& 0x3f).toInt64)), .second] [])) t
            refine XS.iconst X43.here hx rfl (hb hby at_205) ?_
            show Steps p.tables e below (T43.setTop (mkF m 206 #[.val (.int p0), .val (.int p1), .val (.long q2), .second, .val (.long q3), .second, .val (.int (1 : Int32)), .val (.int (own_P p1)), .val (.ref b17), .val (.ref b23_r), .val (.ref b24_t), .val (.long (-1 : Int64)), .second, .val (.long ((-1 : Int64) <<< (((128 : Int32) - (own_P p1)) &&& 0x3f).toInt64)), .second] [(.int (1 : Int32))])) t
            refine XS.goto X43.here hx rfl (pc0 := 206) (pc' := 210) rfl (hb hby at_206) (by decide) (by decide) ?_
            exact kt
          refine OGo.retZ X43 hx hlk (t := .boolean) (z' := (1 : Int32)) hret (by simp) (hb hby at_210) rfl ?_ (by decide) (by decide)
          show Q0 Z p0 p1 q2 q3 h0 n0 _ T43.heap _
          rw [e43]
          exact ⟨rfl, N43, KC24⟩
        · refine OGo.step (F' := T25.setTop (mkF m 117 #[.val (.int p0), .val (.int p1), .val (.long q2), .second, .val (.long q3), .second, .val (.int (1 : Int32)), .val (.int (own_P p1)), .val (.ref b17), .val (.ref b23_r), .val (.ref b24_t), .val (.long (-1 : Int64)), .second, .unset, .unset] [])) (fun t kt => ?_) ?_
          · show Steps p.tables e below (T25.setTop (mkF m 114 #[.val (.int p0), .val (.int p1), .val (.long q2), .second, .val (.long q3), .second, .val (.int (1 : Int32)), .val (.int (own_P p1)), .val (.ref b17), .val (.ref b23_r), .val (.ref b24_t), .val (.long (-1 : Int64)), .second, .unset, .unset] [(.int (64 : Int32)), (.int (own_P p1))])) t
            refine XS.icmpNo X25.here hx rfl (hb hby at_114) rfl (flt hc114).2.2.1 ?_
            exact kt
          refine OGo.step (F' := T25.setTop (mkF m 135 #[.val (.int p0), .val (.int p1), .val (.long q2), .second, .val (.long q3), .second, .val (.int (1 : Int32)), .val (.int (own_P p1)), .val (.ref b17), .val (.ref b23_r), .val (.ref b24_t), .val (.long (-1 : Int64)), .second, .val (.long (0 : Int64)), .second] [(.ref b23_r)])) (fun t kt => ?_) ?_
          · show Steps p.tables e below (T25.setTop (mkF m 117 #[.val (.int p0), .val (.int p1), .val (.long q2), .second, .val (.long q3), .second, .val (.int (1 : Int32)), .val (.int (own_P p1)), .val (.ref b17), .val (.ref b23_r), .val (.ref b24_t), .val (.long (-1 : Int64)), .second, .unset, .unset] [])) t
            refine XS.lconst X25.here hx rfl (hb hby at_117) ?_
            show Steps p.tables e below (T25.setTop (mkF m 118 #[.val (.int p0), .val (.int p1), .val (.long q2), .second, .val (.long q3), .second, .val (.int (1 : Int32)), .val (.int (own_P p1)), .val (.ref b17), .val (.ref b23_r), .val (.ref b24_t), .val (.long (-1 : Int64)), .second, .unset, .unset] [(.long (0 : Int64))])) t
            refine XS.goto X25.here hx rfl (pc0 := 118) (pc' := 131) rfl (hb hby at_118) (by decide) (by decide) ?_
            show Steps p.tables e below (T25.setTop (mkF m 131 #[.val (.int p0), .val (.int p1), .val (.long q2), .second, .val (.long q3), .second, .val (.int (1 : Int32)), .val (.int (own_P p1)), .val (.ref b17), .val (.ref b23_r), .val (.ref b24_t), .val (.long (-1 : Int64)), .second, .unset, .unset] [(.long (0 : Int64))])) t
            refine XS.lstore X25.here hx rfl (hb hby at_131) rfl (l' := #[.val (.int p0), .val (.int p1), .val (.long q2), .second, .val (.long q3), .second, .val (.int (1 : Int32)), .val (.int (own_P p1)), .val (.ref b17), .val (.ref b23_r), .val (.ref b24_t), .val (.long (-1 : Int64)), .second, .val (.long (0 : Int64)), .second]) rfl ?_
            show Steps p.tables e below (T25.setTop (mkF m 133 #[.val (.int p0), .val (.int p1), .val (.long q2), .second, .val (.long q3), .second, .val (.int (1 : Int32)), .val (.int (own_P p1)), .val (.ref b17), .val (.ref b23_r), .val (.ref b24_t), .val (.long (-1 : Int64)), .second, .val (.long (0 : Int64)), .second] [])) t
            refine XS.aload X25.here hx rfl (hb hby at_133) rfl rfl ?_
            exact kt
          refine OGo.callV X25 hx hZ (y := (⟨"com/example/veiled_alerts/veiledalerts/model/Network", "prefixLength", "()I"⟩ : MethodName)) (z := (⟨"com/example/veiled_alerts/veiledalerts/model/Network", "prefixLength", "()I"⟩ : MethodName)) hown (own_wd hw 58 rfl) (own_wd hw 59 rfl) (notFace_of_selects (args := #[]) (mvT hZ (own_wd hw 61 rfl))) (own_wd hw 61 rfl) (own_wd hw 60 rfl) (own_wd hw 19 rfl) (own_wd hw 62 rfl) (by decide) (rm9 l Z az hw [] b23_r (own_P p1) T24.heap n0 (Nat.le_trans Z0 KC24.1) (P23_2.keep K24 nin0)) (W := 0) (by decide) (by decide) (P23_0.keep K24) (g := (mkF m 135 #[.val (.int p0), .val (.int p1), .val (.long q2), .second, .val (.long q3), .second, .val (.int (1 : Int32)), .val (.int (own_P p1)), .val (.ref b17), .val (.ref b23_r), .val (.ref b24_t), .val (.long (-1 : Int64)), .second, .val (.long (0 : Int64)), .second] [(.ref b23_r)])) rfl (by rw [hml]; rfl) (argsL := []) (rest := []) (lenOf pd_0_5 rfl) rfl (by show 2 * 0 + _ ≤ _; exact Nat.le_of_eq rfl) (hb hby at_135) rfl e25 (by decide) (by decide) ?_
          rintro _ T44 L44 X44 ⟨hv44, Nq44, e44⟩
          have N44 := Fr.app N25 Nq44
          rw [show (f9 (own_P p1)) = (own_P p1) from rfl] at hv44
          subst hv44
          show OGo _ _ _ _ _ _ _ (T44.setTop (mkF m 138 #[.val (.int p0), .val (.int p1), .val (.long q2), .second, .val (.long q3), .second, .val (.int (1 : Int32)), .val (.int (own_P p1)), .val (.ref b17), .val (.ref b23_r), .val (.ref b24_t), .val (.long (-1 : Int64)), .second, .val (.long (0 : Int64)), .second] [(.int (own_P p1))]))
          refine OGo.step (F' := T44.setTop (mkF m 145 #[.val (.int p0), .val (.int p1), .val (.long q2), .second, .val (.long q3), .second, .val (.int (1 : Int32)), .val (.int (own_P p1)), .val (.ref b17), .val (.ref b23_r), .val (.ref b24_t), .val (.long (-1 : Int64)), .second, .val (.long (0 : Int64)), .second] [(.ref b24_t)])) (fun t kt => ?_) ?_
          · show Steps p.tables e below (T44.setTop (mkF m 138 #[.val (.int p0), .val (.int p1), .val (.long q2), .second, .val (.long q3), .second, .val (.int (1 : Int32)), .val (.int (own_P p1)), .val (.ref b17), .val (.ref b23_r), .val (.ref b24_t), .val (.long (-1 : Int64)), .second, .val (.long (0 : Int64)), .second] [(.int (own_P p1))])) t
            refine XS.iload X44.here hx rfl (hb hby at_138) rfl ?_
            show Steps p.tables e below (T44.setTop (mkF m 140 #[.val (.int p0), .val (.int p1), .val (.long q2), .second, .val (.long q3), .second, .val (.int (1 : Int32)), .val (.int (own_P p1)), .val (.ref b17), .val (.ref b23_r), .val (.ref b24_t), .val (.long (-1 : Int64)), .second, .val (.long (0 : Int64)), .second] [(.int (own_P p1)), (.int (own_P p1))])) t
            refine XS.icmpNo X44.here hx rfl (hb hby at_140) rfl (teq (rfl : (own_P p1) = (own_P p1))).2 ?_
            show Steps p.tables e below (T44.setTop (mkF m 143 #[.val (.int p0), .val (.int p1), .val (.long q2), .second, .val (.long q3), .second, .val (.int (1 : Int32)), .val (.int (own_P p1)), .val (.ref b17), .val (.ref b23_r), .val (.ref b24_t), .val (.long (-1 : Int64)), .second, .val (.long (0 : Int64)), .second] [])) t
            refine XS.aload X44.here hx rfl (hb hby at_143) rfl rfl ?_
            exact kt
          obtain ⟨kk45, cl45, Ar45, qz45, S45, N45a, H45, G45⟩ := id (P24_3)
          refine OGo.step (F' := T44.setTop (mkF m 146 #[.val (.int p0), .val (.int p1), .val (.long q2), .second, .val (.long q3), .second, .val (.int (1 : Int32)), .val (.int (own_P p1)), .val (.ref b17), .val (.ref b23_r), .val (.ref b24_t), .val (.long (-1 : Int64)), .second, .val (.long (0 : Int64)), .second] [(.int (Int32.ofNat (own_clr (own_P p1) (own_xs q2 q3)).length))])) (fun t kt => ?_) ?_
          · show Steps p.tables e below (T44.setTop (mkF m 145 #[.val (.int p0), .val (.int p1), .val (.long q2), .second, .val (.long q3), .second, .val (.int (1 : Int32)), .val (.int (own_P p1)), .val (.ref b17), .val (.ref b23_r), .val (.ref b24_t), .val (.long (-1 : Int64)), .second, .val (.long (0 : Int64)), .second] [(.ref b24_t)])) t
            refine X44.arraylength hx (by rw [e44]; exact Ar45.1) (State.isArrayOf_alike hZ.alike Ar45.2.1) (g := (mkF m 145 #[.val (.int p0), .val (.int p1), .val (.long q2), .second, .val (.long q3), .second, .val (.int (1 : Int32)), .val (.int (own_P p1)), .val (.ref b17), .val (.ref b23_r), .val (.ref b24_t), .val (.long (-1 : Int64)), .second, .val (.long (0 : Int64)), .second] [(.ref b24_t)])) rfl rfl (hb hby at_145) _ ?_
            rw [len_of S45 N45a]
            exact kt
          refine OGo.step (F' := T44.setTop (mkF m 154 #[.val (.int p0), .val (.int p1), .val (.long q2), .second, .val (.long q3), .second, .val (.int (1 : Int32)), .val (.int (own_P p1)), .val (.ref b17), .val (.ref b23_r), .val (.ref b24_t), .val (.long (-1 : Int64)), .second, .val (.long (0 : Int64)), .second] [(.int (0 : Int32)), (.ref b24_t)])) (fun t kt => ?_) ?_
          · show Steps p.tables e below (T44.setTop (mkF m 146 #[.val (.int p0), .val (.int p1), .val (.long q2), .second, .val (.long q3), .second, .val (.int (1 : Int32)), .val (.int (own_P p1)), .val (.ref b17), .val (.ref b23_r), .val (.ref b24_t), .val (.long (-1 : Int64)), .second, .val (.long (0 : Int64)), .second] [(.int (Int32.ofNat (own_clr (own_P p1) (own_xs q2 q3)).length))])) t
            refine XS.bipush X44.here hx rfl (hb hby at_146) ?_
            show Steps p.tables e below (T44.setTop (mkF m 148 #[.val (.int p0), .val (.int p1), .val (.long q2), .second, .val (.long q3), .second, .val (.int (1 : Int32)), .val (.int (own_P p1)), .val (.ref b17), .val (.ref b23_r), .val (.ref b24_t), .val (.long (-1 : Int64)), .second, .val (.long (0 : Int64)), .second] [(.int (16 : Int32)), (.int (Int32.ofNat (own_clr (own_P p1) (own_xs q2 q3)).length))])) t
            refine XS.icmpNo X44.here hx rfl (hb hby at_148) rfl (teq (own_l16 _ _ _)).2 ?_
            show Steps p.tables e below (T44.setTop (mkF m 151 #[.val (.int p0), .val (.int p1), .val (.long q2), .second, .val (.long q3), .second, .val (.int (1 : Int32)), .val (.int (own_P p1)), .val (.ref b17), .val (.ref b23_r), .val (.ref b24_t), .val (.long (-1 : Int64)), .second, .val (.long (0 : Int64)), .second] [])) t
            refine XS.aload X44.here hx rfl (hb hby at_151) rfl rfl ?_
            show Steps p.tables e below (T44.setTop (mkF m 153 #[.val (.int p0), .val (.int p1), .val (.long q2), .second, .val (.long q3), .second, .val (.int (1 : Int32)), .val (.int (own_P p1)), .val (.ref b17), .val (.ref b23_r), .val (.ref b24_t), .val (.long (-1 : Int64)), .second, .val (.long (0 : Int64)), .second] [(.ref b24_t)])) t
            refine XS.iconst X44.here hx rfl (hb hby at_153) ?_
            exact kt
          refine OGo.callS X44 hx hZ (y := (⟨"com/example/veiled_alerts/veiledalerts/model/NetworkContainingPinLaw", "get8", "([BI)J"⟩ : MethodName)) hown (own_wd hw 70 rfl) (own_wd hw 71 rfl) (own_wd hw 4 rfl) (own_wd hw 72 rfl) (by decide) (rm12_0 l Z az hw [] b24_t (own_clr (own_P p1) (own_xs q2 q3)) T24.heap n0 (Nat.le_trans Z0 KC24.1) P24_3 (own_clrl _ _)) (W := 0) (by decide) (by decide) (g := (mkF m 154 #[.val (.int p0), .val (.int p1), .val (.long q2), .second, .val (.long q3), .second, .val (.int (1 : Int32)), .val (.int (own_P p1)), .val (.ref b17), .val (.ref b23_r), .val (.ref b24_t), .val (.long (-1 : Int64)), .second, .val (.long (0 : Int64)), .second] [(.int (0 : Int32)), (.ref b24_t)])) rfl (by rw [hml]; rfl) (argsL := [(.ref b24_t), (.int (0 : Int32))]) (rest := []) (lenOf pd_0_8 rfl) rfl (by show 2 * 0 + _ ≤ _; exact Nat.le_of_eq rfl) (hb hby at_154) rfl e44 (by decide) (by decide) ?_
          rintro _ T46 L46 X46 ⟨rfl, Nq46, e46⟩
          have N46 := Fr.app N44 Nq46
          show OGo _ _ _ _ _ _ _ (T46.setTop (mkF m 157 #[.val (.int p0), .val (.int p1), .val (.long q2), .second, .val (.long q3), .second, .val (.int (1 : Int32)), .val (.int (own_P p1)), .val (.ref b17), .val (.ref b23_r), .val (.ref b24_t), .val (.long (-1 : Int64)), .second, .val (.long (0 : Int64)), .second] [(.long (f12_0 (own_clr (own_P p1) (own_xs q2 q3))))]))
          refine OGo.step (F' := T46.setTop (mkF m 169 #[.val (.int p0), .val (.int p1), .val (.long q2), .second, .val (.long q3), .second, .val (.int (1 : Int32)), .val (.int (own_P p1)), .val (.ref b17), .val (.ref b23_r), .val (.ref b24_t), .val (.long (-1 : Int64)), .second, .val (.long (0 : Int64)), .second] [(.int (8 : Int32)), (.ref b24_t)])) (fun t kt => ?_) ?_
          · show Steps p.tables e below (T46.setTop (mkF m 157 #[.val (.int p0), .val (.int p1), .val (.long q2), .second, .val (.long q3), .second, .val (.int (1 : Int32)), .val (.int (own_P p1)), .val (.ref b17), .val (.ref b23_r), .val (.ref b24_t), .val (.long (-1 : Int64)), .second, .val (.long (0 : Int64)), .second] [(.long (f12_0 (own_clr (own_P p1) (own_xs q2 q3))))])) t
            refine XS.lloadN X46.here hx rfl (hb hby at_157) rfl ?_
            show Steps p.tables e below (T46.setTop (mkF m 158 #[.val (.int p0), .val (.int p1), .val (.long q2), .second, .val (.long q3), .second, .val (.int (1 : Int32)), .val (.int (own_P p1)), .val (.ref b17), .val (.ref b23_r), .val (.ref b24_t), .val (.long (-1 : Int64)), .second, .val (.long (0 : Int64)), .second] [(.long q2), (.long (f12_0 (own_clr (own_P p1) (own_xs q2 q3))))])) t
            refine XS.lload X46.here hx rfl (hb hby at_158) rfl ?_
            show Steps p.tables e below (T46.setTop (mkF m 160 #[.val (.int p0), .val (.int p1), .val (.long q2), .second, .val (.long q3), .second, .val (.int (1 : Int32)), .val (.int (own_P p1)), .val (.ref b17), .val (.ref b23_r), .val (.ref b24_t), .val (.long (-1 : Int64)), .second, .val (.long (0 : Int64)), .second] [(.long (-1 : Int64)), (.long q2), (.long (f12_0 (own_clr (own_P p1) (own_xs q2 q3))))])) t
            refine XS.land X46.here hx rfl (hb hby at_160) rfl ?_
            show Steps p.tables e below (T46.setTop (mkF m 161 #[.val (.int p0), .val (.int p1), .val (.long q2), .second, .val (.long q3), .second, .val (.int (1 : Int32)), .val (.int (own_P p1)), .val (.ref b17), .val (.ref b23_r), .val (.ref b24_t), .val (.long (-1 : Int64)), .second, .val (.long (0 : Int64)), .second] [(.long (q2 &&& (-1 : Int64))), (.long (f12_0 (own_clr (own_P p1) (own_xs q2 q3))))])) t
            refine XS.lcmp X46.here hx rfl (hb hby at_161) rfl ?_
            show Steps p.tables e below (T46.setTop (mkF m 162 #[.val (.int p0), .val (.int p1), .val (.long q2), .second, .val (.long q3), .second, .val (.int (1 : Int32)), .val (.int (own_P p1)), .val (.ref b17), .val (.ref b23_r), .val (.ref b24_t), .val (.long (-1 : Int64)), .second, .val (.long (0 : Int64)), .second] [(.int (lcmpW (f12_0 (own_clr (own_P p1) (own_xs q2 q3))) (q2 &&& (-1 : Int64))))])) t
            refine XS.ifNo X46.here hx rfl (hb hby at_162) rfl ((if0 _ _).trans (teq ((lw_eq _ _).mpr (own_h2 _ _ _ hc90))).2) ?_
            show Steps p.tables e below (T46.setTop (mkF m 165 #[.val (.int p0), .val (.int p1), .val (.long q2), .second, .val (.long q3), .second, .val (.int (1 : Int32)), .val (.int (own_P p1)), .val (.ref b17), .val (.ref b23_r), .val (.ref b24_t), .val (.long (-1 : Int64)), .second, .val (.long (0 : Int64)), .second] [])) t
            refine XS.aload X46.here hx rfl (hb hby at_165) rfl rfl ?_
            show Steps p.tables e below (T46.setTop (mkF m 167 #[.val (.int p0), .val (.int p1), .val (.long q2), .second, .val (.long q3), .second, .val (.int (1 : Int32)), .val (.int (own_P p1)), .val (.ref b17), .val (.ref b23_r), .val (.ref b24_t), .val (.long (-1 : Int64)), .second, .val (.long (0 : Int64)), .second] [(.ref b24_t)])) t
            refine XS.bipush X46.here hx rfl (hb hby at_167) ?_
            exact kt
          refine OGo.callS X46 hx hZ (y := (⟨"com/example/veiled_alerts/veiledalerts/model/NetworkContainingPinLaw", "get8", "([BI)J"⟩ : MethodName)) hown (own_wd hw 70 rfl) (own_wd hw 71 rfl) (own_wd hw 4 rfl) (own_wd hw 72 rfl) (by decide) (rm12_8 l Z az hw [] b24_t (own_clr (own_P p1) (own_xs q2 q3)) T24.heap n0 (Nat.le_trans Z0 KC24.1) P24_3 (own_clrl _ _)) (W := 0) (by decide) (by decide) (g := (mkF m 169 #[.val (.int p0), .val (.int p1), .val (.long q2), .second, .val (.long q3), .second, .val (.int (1 : Int32)), .val (.int (own_P p1)), .val (.ref b17), .val (.ref b23_r), .val (.ref b24_t), .val (.long (-1 : Int64)), .second, .val (.long (0 : Int64)), .second] [(.int (8 : Int32)), (.ref b24_t)])) rfl (by rw [hml]; rfl) (argsL := [(.ref b24_t), (.int (8 : Int32))]) (rest := []) (lenOf pd_0_8 rfl) rfl (by show 2 * 0 + _ ≤ _; exact Nat.le_of_eq rfl) (hb hby at_169) rfl e46 (by decide) (by decide) ?_
          rintro _ T47 L47 X47 ⟨rfl, Nq47, e47⟩
          have N47 := Fr.app N46 Nq47
          show OGo _ _ _ _ _ _ _ (T47.setTop (mkF m 172 #[.val (.int p0), .val (.int p1), .val (.long q2), .second, .val (.long q3), .second, .val (.int (1 : Int32)), .val (.int (own_P p1)), .val (.ref b17), .val (.ref b23_r), .val (.ref b24_t), .val (.long (-1 : Int64)), .second, .val (.long (0 : Int64)), .second] [(.long (f12_8 (own_clr (own_P p1) (own_xs q2 q3))))]))
          refine OGo.step (F' := T47.setTop (mkF m 184 #[.val (.int p0), .val (.int p1), .val (.long q2), .second, .val (.long q3), .second, .val (.int (1 : Int32)), .val (.int (own_P p1)), .val (.ref b17), .val (.ref b23_r), .val (.ref b24_t), .val (.long (-1 : Int64)), .second, .val (.long (0 : Int64)), .second] [(.int (0 : Int32)), (.ref b17)])) (fun t kt => ?_) ?_
          · show Steps p.tables e below (T47.setTop (mkF m 172 #[.val (.int p0), .val (.int p1), .val (.long q2), .second, .val (.long q3), .second, .val (.int (1 : Int32)), .val (.int (own_P p1)), .val (.ref b17), .val (.ref b23_r), .val (.ref b24_t), .val (.long (-1 : Int64)), .second, .val (.long (0 : Int64)), .second] [(.long (f12_8 (own_clr (own_P p1) (own_xs q2 q3))))])) t
            refine XS.lload X47.here hx rfl (hb hby at_172) rfl ?_
            show Steps p.tables e below (T47.setTop (mkF m 174 #[.val (.int p0), .val (.int p1), .val (.long q2), .second, .val (.long q3), .second, .val (.int (1 : Int32)), .val (.int (own_P p1)), .val (.ref b17), .val (.ref b23_r), .val (.ref b24_t), .val (.long (-1 : Int64)), .second, .val (.long (0 : Int64)), .second] [(.long q3), (.long (f12_8 (own_clr (own_P p1) (own_xs q2 q3))))])) t
            refine XS.lload X47.here hx rfl (hb hby at_174) rfl ?_
            show Steps p.tables e below (T47.setTop (mkF m 176 #[.val (.int p0), .val (.int p1), .val (.long q2), .second, .val (.long q3), .second, .val (.int (1 : Int32)), .val (.int (own_P p1)), .val (.ref b17), .val (.ref b23_r), .val (.ref b24_t), .val (.long (-1 : Int64)), .second, .val (.long (0 : Int64)), .second] [(.long (0 : Int64)), (.long q3), (.long (f12_8 (own_clr (own_P p1) (own_xs q2 q3))))])) t
            refine XS.land X47.here hx rfl (hb hby at_176) rfl ?_
            show Steps p.tables e below (T47.setTop (mkF m 177 #[.val (.int p0), .val (.int p1), .val (.long q2), .second, .val (.long q3), .second, .val (.int (1 : Int32)), .val (.int (own_P p1)), .val (.ref b17), .val (.ref b23_r), .val (.ref b24_t), .val (.long (-1 : Int64)), .second, .val (.long (0 : Int64)), .second] [(.long (q3 &&& (0 : Int64))), (.long (f12_8 (own_clr (own_P p1) (own_xs q2 q3))))])) t
            refine XS.lcmp X47.here hx rfl (hb hby at_177) rfl ?_
            show Steps p.tables e below (T47.setTop (mkF m 178 #[.val (.int p0), .val (.int p1), .val (.long q2), .second, .val (.long q3), .second, .val (.int (1 : Int32)), .val (.int (own_P p1)), .val (.ref b17), .val (.ref b23_r), .val (.ref b24_t), .val (.long (-1 : Int64)), .second, .val (.long (0 : Int64)), .second] [(.int (lcmpW (f12_8 (own_clr (own_P p1) (own_xs q2 q3))) (q3 &&& (0 : Int64))))])) t
            refine XS.ifNo X47.here hx rfl (hb hby at_178) rfl ((if0 _ _).trans (teq ((lw_eq _ _).mpr (own_l1 _ _ _ hc114))).2) ?_
            show Steps p.tables e below (T47.setTop (mkF m 181 #[.val (.int p0), .val (.int p1), .val (.long q2), .second, .val (.long q3), .second, .val (.int (1 : Int32)), .val (.int (own_P p1)), .val (.ref b17), .val (.ref b23_r), .val (.ref b24_t), .val (.long (-1 : Int64)), .second, .val (.long (0 : Int64)), .second] [])) t
            refine XS.aload X47.here hx rfl (hb hby at_181) rfl rfl ?_
            show Steps p.tables e below (T47.setTop (mkF m 183 #[.val (.int p0), .val (.int p1), .val (.long q2), .second, .val (.long q3), .second, .val (.int (1 : Int32)), .val (.int (own_P p1)), .val (.ref b17), .val (.ref b23_r), .val (.ref b24_t), .val (.long (-1 : Int64)), .second, .val (.long (0 : Int64)), .second] [(.ref b17)])) t
            refine XS.iconst X47.here hx rfl (hb hby at_183) ?_
            exact kt
          refine OGo.callS X47 hx hZ (y := (⟨"com/example/veiled_alerts/veiledalerts/model/NetworkContainingPinLaw", "get8", "([BI)J"⟩ : MethodName)) hown (own_wd hw 70 rfl) (own_wd hw 71 rfl) (own_wd hw 4 rfl) (own_wd hw 72 rfl) (by decide) (rm12_0 l Z az hw [] b17 (own_xs q2 q3) T24.heap n0 (Nat.le_trans Z0 KC24.1) ((((O20.ext E21).keep K22 (ninS (Nat.ne_of_lt (Nat.lt_of_lt_of_le O20.lt (Nat.le_of_eq g21.symm))) nin0)).keep K23 nin0).keep K24 nin0) rfl) (W := 0) (by decide) (by decide) (g := (mkF m 184 #[.val (.int p0), .val (.int p1), .val (.long q2), .second, .val (.long q3), .second, .val (.int (1 : Int32)), .val (.int (own_P p1)), .val (.ref b17), .val (.ref b23_r), .val (.ref b24_t), .val (.long (-1 : Int64)), .second, .val (.long (0 : Int64)), .second] [(.int (0 : Int32)), (.ref b17)])) rfl (by rw [hml]; rfl) (argsL := [(.ref b17), (.int (0 : Int32))]) (rest := []) (lenOf pd_0_8 rfl) rfl (by show 2 * 0 + _ ≤ _; exact Nat.le_of_eq rfl) (hb hby at_184) rfl e47 (by decide) (by decide) ?_
          rintro _ T48 L48 X48 ⟨rfl, Nq48, e48⟩
          have N48 := Fr.app N47 Nq48
          show OGo _ _ _ _ _ _ _ (T48.setTop (mkF m 187 #[.val (.int p0), .val (.int p1), .val (.long q2), .second, .val (.long q3), .second, .val (.int (1 : Int32)), .val (.int (own_P p1)), .val (.ref b17), .val (.ref b23_r), .val (.ref b24_t), .val (.long (-1 : Int64)), .second, .val (.long (0 : Int64)), .second] [(.long (f12_0 (own_xs q2 q3)))]))
          refine OGo.step (F' := T48.setTop (mkF m 196 #[.val (.int p0), .val (.int p1), .val (.long q2), .second, .val (.long q3), .second, .val (.int (1 : Int32)), .val (.int (own_P p1)), .val (.ref b17), .val (.ref b23_r), .val (.ref b24_t), .val (.long (-1 : Int64)), .second, .val (.long (0 : Int64)), .second] [(.int (8 : Int32)), (.ref b17)])) (fun t kt => ?_) ?_
          · show Steps p.tables e below (T48.setTop (mkF m 187 #[.val (.int p0), .val (.int p1), .val (.long q2), .second, .val (.long q3), .second, .val (.int (1 : Int32)), .val (.int (own_P p1)), .val (.ref b17), .val (.ref b23_r), .val (.ref b24_t), .val (.long (-1 : Int64)), .second, .val (.long (0 : Int64)), .second] [(.long (f12_0 (own_xs q2 q3)))])) t
            refine XS.lloadN X48.here hx rfl (hb hby at_187) rfl ?_
            show Steps p.tables e below (T48.setTop (mkF m 188 #[.val (.int p0), .val (.int p1), .val (.long q2), .second, .val (.long q3), .second, .val (.int (1 : Int32)), .val (.int (own_P p1)), .val (.ref b17), .val (.ref b23_r), .val (.ref b24_t), .val (.long (-1 : Int64)), .second, .val (.long (0 : Int64)), .second] [(.long q2), (.long (f12_0 (own_xs q2 q3)))])) t
            refine XS.lcmp X48.here hx rfl (hb hby at_188) rfl ?_
            show Steps p.tables e below (T48.setTop (mkF m 189 #[.val (.int p0), .val (.int p1), .val (.long q2), .second, .val (.long q3), .second, .val (.int (1 : Int32)), .val (.int (own_P p1)), .val (.ref b17), .val (.ref b23_r), .val (.ref b24_t), .val (.long (-1 : Int64)), .second, .val (.long (0 : Int64)), .second] [(.int (lcmpW (f12_0 (own_xs q2 q3)) q2))])) t
            refine XS.ifNo X48.here hx rfl (hb hby at_189) rfl ((if0 _ _).trans (teq ((lw_eq _ _).mpr (own_gx0 _ _))).2) ?_
            show Steps p.tables e below (T48.setTop (mkF m 192 #[.val (.int p0), .val (.int p1), .val (.long q2), .second, .val (.long q3), .second, .val (.int (1 : Int32)), .val (.int (own_P p1)), .val (.ref b17), .val (.ref b23_r), .val (.ref b24_t), .val (.long (-1 : Int64)), .second, .val (.long (0 : Int64)), .second] [])) t
            refine XS.aload X48.here hx rfl (hb hby at_192) rfl rfl ?_
            show Steps p.tables e below (T48.setTop (mkF m 194 #[.val (.int p0), .val (.int p1), .val (.long q2), .second, .val (.long q3), .second, .val (.int (1 : Int32)), .val (.int (own_P p1)), .val (.ref b17), .val (.ref b23_r), .val (.ref b24_t), .val (.long (-1 : Int64)), .second, .val (.long (0 : Int64)), .second] [(.ref b17)])) t
            refine XS.bipush X48.here hx rfl (hb hby at_194) ?_
            exact kt
          refine OGo.callS X48 hx hZ (y := (⟨"com/example/veiled_alerts/veiledalerts/model/NetworkContainingPinLaw", "get8", "([BI)J"⟩ : MethodName)) hown (own_wd hw 70 rfl) (own_wd hw 71 rfl) (own_wd hw 4 rfl) (own_wd hw 72 rfl) (by decide) (rm12_8 l Z az hw [] b17 (own_xs q2 q3) T24.heap n0 (Nat.le_trans Z0 KC24.1) ((((O20.ext E21).keep K22 (ninS (Nat.ne_of_lt (Nat.lt_of_lt_of_le O20.lt (Nat.le_of_eq g21.symm))) nin0)).keep K23 nin0).keep K24 nin0) rfl) (W := 0) (by decide) (by decide) (g := (mkF m 196 #[.val (.int p0), .val (.int p1), .val (.long q2), .second, .val (.long q3), .second, .val (.int (1 : Int32)), .val (.int (own_P p1)), .val (.ref b17), .val (.ref b23_r), .val (.ref b24_t), .val (.long (-1 : Int64)), .second, .val (.long (0 : Int64)), .second] [(.int (8 : Int32)), (.ref b17)])) rfl (by rw [hml]; rfl) (argsL := [(.ref b17), (.int (8 : Int32))]) (rest := []) (lenOf pd_0_8 rfl) rfl (by show 2 * 0 + _ ≤ _; exact Nat.le_of_eq rfl) (hb hby at_196) rfl e48 (by decide) (by decide) ?_
          rintro _ T49 L49 X49 ⟨rfl, Nq49, e49⟩
          have N49 := Fr.app N48 Nq49
          show OGo _ _ _ _ _ _ _ (T49.setTop (mkF m 199 #[.val (.int p0), .val (.int p1), .val (.long q2), .second, .val (.long q3), .second, .val (.int (1 : Int32)), .val (.int (own_P p1)), .val (.ref b17), .val (.ref b23_r), .val (.ref b24_t), .val (.long (-1 : Int64)), .second, .val (.long (0 : Int64)), .second] [(.long (f12_8 (own_xs q2 q3)))]))
          refine OGo.step (F' := T49.setTop (mkF m 210 #[.val (.int p0), .val (.int p1), .val (.long q2), .second, .val (.long q3), .second, .val (.int (1 : Int32)), .val (.int (own_P p1)), .val (.ref b17), .val (.ref b23_r), .val (.ref b24_t), .val (.long (-1 : Int64)), .second, .val (.long (0 : Int64)), .second] [(.int (1 : Int32))])) (fun t kt => ?_) ?_
          · show Steps p.tables e below (T49.setTop (mkF m 199 #[.val (.int p0), .val (.int p1), .val (.long q2), .second, .val (.long q3), .second, .val (.int (1 : Int32)), .val (.int (own_P p1)), .val (.ref b17), .val (.ref b23_r), .val (.ref b24_t), .val (.long (-1 : Int64)), .second, .val (.long (0 : Int64)), .second] [(.long (f12_8 (own_xs q2 q3)))])) t
            refine XS.lload X49.here hx rfl (hb hby at_199) rfl ?_
            show Steps p.tables e below (T49.setTop (mkF m 201 #[.val (.int p0), .val (.int p1), .val (.long q2), .second, .val (.long q3), .second, .val (.int (1 : Int32)), .val (.int (own_P p1)), .val (.ref b17), .val (.ref b23_r), .val (.ref b24_t), .val (.long (-1 : Int64)), .second, .val (.long (0 : Int64)), .second] [(.long q3), (.long (f12_8 (own_xs q2 q3)))])) t
            refine XS.lcmp X49.here hx rfl (hb hby at_201) rfl ?_
            show Steps p.tables e below (T49.setTop (mkF m 202 #[.val (.int p0), .val (.int p1), .val (.long q2), .second, .val (.long q3), .second, .val (.int (1 : Int32)), .val (.int (own_P p1)), .val (.ref b17), .val (.ref b23_r), .val (.ref b24_t), .val (.long (-1 : Int64)), .second, .val (.long (0 : Int64)), .second] [(.int (lcmpW (f12_8 (own_xs q2 q3)) q3))])) t
            refine XS.ifNo X49.here hx rfl (hb hby at_202) rfl ((if0 _ _).trans (teq ((lw_eq _ _).mpr (own_gx8 _ _))).2) ?_
            show Steps p.tables e below (T49.setTop (mkF m 205 #[.val (.int p0), .val (.int p1), .val (.long q2), .second, .val (.long q3), .second, .val (.int (1 : Int32)), .val (.int (own_P p1)), .val (.ref b17), .val (.ref b23_r), .val (.ref b24_t), .val (.long (-1 : Int64)), .second, .val (.long (0 : Int64)), .second] [])) t
            refine XS.iconst X49.here hx rfl (hb hby at_205) ?_
            show Steps p.tables e below (T49.setTop (mkF m 206 #[.val (.int p0), .val (.int p1), .val (.long q2), .second, .val (.long q3), .second, .val (.int (1 : Int32)), .val (.int (own_P p1)), .val (.ref b17), .val (.ref b23_r), .val (.ref b24_t), .val (.long (-1 : Int64)), .second, .val (.long (0 : Int64)), .second] [(.int (1 : Int32))])) t
            refine XS.goto X49.here hx rfl (pc0 := 206) (pc' := 210) rfl (hb hby at_206) (by decide) (by decide) ?_
            exact kt
          refine OGo.retZ X49 hx hlk (t := .boolean) (z' := (1 : Int32)) hret (by simp) (hb hby at_210) rfl ?_ (by decide) (by decide)
          show Q0 Z p0 p1 q2 q3 h0 n0 _ T49.heap _
          rw [e49]
          exact ⟨rfl, N49, KC24⟩
set_option maxRecDepth 65536 in
set_option maxHeartbeats 40000000 in
theorem comes_1 {Post : Tables → Env → Array Value → State → Outcome → State → Prop} (hpost : ∀ tb e args s v u, (limb_1_1.after args s (.returned v) u = true ∧ limb_1_2.after args s (.returned v) u = true ∧ True) → FrameEnd s (.returned v) u (Jvm.fieldLocs frame_1_writes args s ++ Jvm.arrayLocs frame_1_arrays args s ++ Jvm.staticLocs frame_1_statics s) 24 192 → Post tb e args s (.returned v) u) :
    ArmFor flags0 classFile x code maxLocals ret World_1 tables_1 room_1 Calls_1 rest_1 Pre_1 Post := by
  intro l hfl _ _ p e ha hc hk s m args below hf hA hF happ hP
  obtain ⟨hcalls, hrest, hpre⟩ := hP
  obtain ⟨-, -, -, hnamed, -, -, -, hat⟩ := (Spec.applies_iff hf).mp happ
  obtain ⟨hg, hn⟩ := and_e (Cond.before_iff.mp (show (Jvm.Cond.and given_1 narrow_1).before args s = true from hpre))
  obtain ⟨gc, gr0⟩ := and_e hg
  obtain ⟨ga0, gr1⟩ := and_e gr0
  obtain ⟨ga1, gr2⟩ := and_e gr1
  obtain ⟨ga2, gr3⟩ := and_e gr2
  have ga3 := gr3
  obtain ⟨w0, w1, w2, w3, rfl⟩ : ∃ w0 w1 w2 w3 : Value, args = #[w0, w1, w2, w3] := by
    have hs : args.size = 4 := by simpa [Cond.value, given_1] using gc
    obtain ⟨L⟩ := args
    match L, hs with
    | [w0, w1, w2, w3], _ => exact ⟨w0, w1, w2, w3, rfl⟩
  have hw := fun d (hd : d ∈ tables_1) => atoms_spec (ws := Jvm.Cond.code x code maxLocals ret :: tables_1) hat d (List.mem_cons_of_mem _ hd)
  have hfit : Fit s := fun {y c} hc i hi => by
    obtain ⟨ha, rfl⟩ := Array.getElem?_eq_some_iff.mp hc
    have q := List.all_eq_true.mp ((Array.all_eq_true_iff_forall_mem.mp hF) _ (Array.getElem_mem ha)) i (List.mem_range.mpr hi)
    simpa [Array.getElem?_eq_getElem hi] using q
  obtain ⟨i0, ei0⟩ := is_v ga0
  obtain rfl : w0 = (.int i0) := Option.some.inj ei0
  obtain ⟨i1, ei1⟩ := is_v ga1
  obtain rfl : w1 = (.int i1) := Option.some.inj ei1
  obtain ⟨i2, ei2⟩ := isL_v ga2
  obtain rfl : w2 = (.long i2) := Option.some.inj ei2
  obtain ⟨i3, ei3⟩ := isL_v ga3
  obtain rfl : w3 = (.long i3) := Option.some.inj ei3
  obtain ⟨n, o, h1, h2, h3, _, L, rfl, ⟨hv, N, -⟩, hq⟩ := rm0 l s _ hw tables_1 i0 i1 i2 i3 s.heap s.heap.size (Nat.le_refl _) p e ha hc hk s m _ below hf ((Spec.applies_iff_loose hf).mp happ).1 ⟨rfl, State.Warmed39.refl s, rfl⟩ trivial
  subst hv
  refine ⟨n, _, h1, h2, h3, hpost _ _ _ _ _ _ ⟨Cond.after_iff.mpr rfl, Cond.after_iff.mpr (eq_i res_at (Term.int_eval (1)) rfl), trivial⟩ ⟨hq.1, hq.2.1, (hq.2.2.sift fun y hy => Or.inr (N y hy)).mono (by decide) (by decide)⟩⟩
theorem main_1_1 : Claimed_1_1 := comes_1 fun _ _ _ _ _ _ h hF => ⟨h.1, hF⟩
theorem main_1_2 : Claimed_1_2 := comes_1 fun _ _ _ _ _ _ h hF => ⟨h.2.1, hF⟩
end Jvm.Pilot.@@N@@
namespace Jvm.Pilot.@@N@@
open Jvm Jvm.ClassFile Sem Op Lib Jvm.Free Jvm.Stand Jvm.Pilot.@@N@@.Jvm.D
/-! MADE BY PROGRAM (witnessworld.py) out of the Statement's table words and the real class files: 11 classes; the members and pool entries that the words name. The judged class is class 1, her method 1. -/
namespace start1
open Jvm.ClassFile
def u (s : String) : CpInfo := .utf8 (stringToUtf16 s)
/-- a pool by its gaps: so many unusable entries, then the entry; so many at the end -/
def gap : Nat → List CpInfo → List CpInfo
  | 0, r => r
  | n + 1, r => .unusable :: gap n r
def poolList (es : List (Nat × CpInfo)) (last : Nat) : List CpInfo := es.foldr (fun e r => gap e.1 (e.2 :: r)) (gap last [])
def pool (es : List (Nat × CpInfo)) (last : Nat) : Array CpInfo := ⟨poolList es last⟩
def fileOf (pool : Array CpInfo) (this : Nat) (attrs : Array Attribute := #[]) (ms : Array MethodInfo := #[]) (fl : Nat := 33) (sup : Nat := 0) (ifs : Array Nat := #[]) (fds : Array FieldInfo := #[]) : ClassFile where
  minorVersion := 0
  majorVersion := 65
  constantPool := pool
  accessFlags := fl
  thisClass := this
  superClass := sup
  interfaces := ifs
  fields := fds
  methods := ms
  attributes := attrs
def plain (name : String) (sup : Option ClassId) : Class where
  name := name
  kind := .ordinary
  loader := none
  accessFlags := 33
  super := sup
  interfaces := #[]
  cf := none
  fields := #[]
  methods := #[]
  instanceTypes := #[]
  staticTypes := #[]
  resolved := #[]
  callSites := []
  init := .initialized
  statics := none
  mirror := none

def pool0 : Array CpInfo := pool [(5, u "<init>"), (0, u "()V"), (1, .class_ 10), (1, u "java/lang/Object"), (85, u "clone"), (0, u "()Ljava/lang/Object;")] 26

def k0c0 : Code := { maxStack := 0, maxLocals := 1, code := object_method_1_code, exceptionTable := #[], attributes := #[] }
def k0m0 : Method := { name := "<init>", desc := "()V", sig := { parameters := [], returnType := none }, accessFlags := 1, code := some k0c0 }
def k0m1 : Method := { name := "clone", desc := "()Ljava/lang/Object;", sig := { parameters := [], returnType := some (.object "java/lang/Object") }, accessFlags := 260, code := none }
/-- java/lang/Object -/
def k0 : Class := { plain "java/lang/Object" none with
  accessFlags := 33
  interfaces := #[]
  cf := some (fileOf pool0 8 #[] #[{ accessFlags := 1, nameIndex := 5, descriptorIndex := 6, attributes := #[] }, { accessFlags := 260, nameIndex := 96, descriptorIndex := 97, attributes := #[] }] 33 0 #[] #[])
  fields := #[]
  methods := #[k0m0, k0m1]
  instanceTypes := #[]
  staticTypes := #[]
  resolved := Array.replicate 124 none
  statics := none }

def pool1 : Array CpInfo := pool [(2, .class_ 4), (1, u "java/lang/Object"), (0, u "<init>"), (0, u "()V"), (0, .integer 2147483647), (0, .methodref 9 10), (0, .class_ 11), (0, .nameAndType 12 13), (0, u "com/example/veiled_alerts/veiledalerts/model/NetworkContainingPinLaw"), (0, u "put8"), (0, u "([BIJ)V"), (0, .class_ 15), (0, u "com/example/veiled_alerts/veiledalerts/model/IpAddress"), (0, .methodref 14 17), (0, .nameAndType 5 18), (0, u "([B)V"), (0, .methodref 20 21), (0, .class_ 22), (0, .nameAndType 23 24), (0, u "com/example/veiled_alerts/veiledalerts/model/Network"), (0, u "containing"), (0, u "(Lcom/example/veiled_alerts/veiledalerts/model/IpAddress;I)Lcom/example/veiled_alerts/veiledalerts/model/Network;"), (0, .methodref 20 26), (0, .nameAndType 27 28), (0, u "address"), (0, u "(J)Lcom/example/veiled_alerts/veiledalerts/model/IpAddress;"), (0, .methodref 14 30), (0, .nameAndType 31 32), (0, u "bytes"), (0, u "()[B"), (0, .long 18446744073709551615), (1, .methodref 20 36), (0, .nameAndType 37 38), (0, u "prefixLength"), (0, u "()I"), (0, .methodref 9 40), (0, .nameAndType 41 42), (0, u "get8"), (0, u "([BI)J"), (0, .methodref 9 44), (0, .nameAndType 45 46), (0, u "put4"), (0, u "([BII)V"), (0, .methodref 9 48), (0, .nameAndType 49 50), (0, u "get4"), (0, u "([BI)I"), (0, .long 255), (3, u "law"), (0, u "(IIJJ)Z")] 5

def k1m0 : Method := { name := "<init>", desc := "()V", sig := { parameters := [], returnType := none }, accessFlags := 1, code := none }
def k1c1 : Code := { maxStack := 6, maxLocals := 15, code := code, exceptionTable := #[], attributes := #[] }
def k1m1 : Method := { name := "law", desc := "(IIJJ)Z", sig := { parameters := [.int, .int, .long, .long], returnType := some .boolean }, accessFlags := 9, code := some k1c1 }
def k1c2 : Code := { maxStack := 5, maxLocals := 4, code := method_3_code, exceptionTable := #[], attributes := #[] }
def k1m2 : Method := { name := "put8", desc := "([BIJ)V", sig := { parameters := [(.array .byte), .int, .long], returnType := none }, accessFlags := 10, code := some k1c2 }
def k1c3 : Code := { maxStack := 6, maxLocals := 2, code := method_4_code, exceptionTable := #[], attributes := #[] }
def k1m3 : Method := { name := "get8", desc := "([BI)J", sig := { parameters := [(.array .byte), .int], returnType := some .long }, accessFlags := 10, code := some k1c3 }
def k1c4 : Code := { maxStack := 4, maxLocals := 3, code := method_5_code, exceptionTable := #[], attributes := #[] }
def k1m4 : Method := { name := "put4", desc := "([BII)V", sig := { parameters := [(.array .byte), .int, .int], returnType := none }, accessFlags := 10, code := some k1c4 }
def k1c5 : Code := { maxStack := 4, maxLocals := 2, code := method_6_code, exceptionTable := #[], attributes := #[] }
def k1m5 : Method := { name := "get4", desc := "([BI)I", sig := { parameters := [(.array .byte), .int], returnType := some .int }, accessFlags := 10, code := some k1c5 }
/-- com/example/veiled_alerts/veiledalerts/model/NetworkContainingPinLaw -/
def k1 : Class := { plain "com/example/veiled_alerts/veiledalerts/model/NetworkContainingPinLaw" (some 0) with
  accessFlags := 49
  interfaces := #[]
  cf := some (fileOf pool1 9 #[] #[{ accessFlags := 1, nameIndex := 5, descriptorIndex := 6, attributes := #[] }, { accessFlags := 9, nameIndex := 55, descriptorIndex := 56, attributes := #[] }, { accessFlags := 10, nameIndex := 12, descriptorIndex := 13, attributes := #[] }, { accessFlags := 10, nameIndex := 41, descriptorIndex := 42, attributes := #[] }, { accessFlags := 10, nameIndex := 45, descriptorIndex := 46, attributes := #[] }, { accessFlags := 10, nameIndex := 49, descriptorIndex := 50, attributes := #[] }] 49 2 #[] #[])
  fields := #[]
  methods := #[k1m0, k1m1, k1m2, k1m3, k1m4, k1m5]
  instanceTypes := #[]
  staticTypes := #[]
  resolved := Array.replicate 62 none
  statics := none }

def pool2 : Array CpInfo := pool [(1, .class_ 2), (0, u "java/lang/Comparable"), (0, .class_ 4), (0, u "java/lang/Object")] 7

/-- java/lang/Comparable -/
def k2 : Class := { plain "java/lang/Comparable" (some 0) with
  accessFlags := 1537
  interfaces := #[]
  cf := some (fileOf pool2 1 #[] #[] 1537 3 #[] #[])
  fields := #[]
  methods := #[]
  instanceTypes := #[]
  staticTypes := #[]
  resolved := Array.replicate 12 none
  statics := none }

def pool3 : Array CpInfo := pool [(1, .methodref 2 3), (0, .class_ 4), (0, .nameAndType 5 6), (0, u "java/lang/Object"), (0, u "<init>"), (0, u "()V"), (0, .fieldref 8 9), (0, .class_ 10), (0, .nameAndType 11 12), (0, u "com/example/veiled_alerts/veiledalerts/model/IpAddress"), (0, u "bytes"), (0, u "[B"), (29, u "IPV4_MAPPED_PREFIX"), (12, u "([B)V"), (94, .class_ 151), (0, u "java/lang/Comparable"), (0, u "IPV4_BITS"), (0, u "I"), (2, u "IPV6_BITS"), (1, u "IPV4_BYTES"), (1, u "IPV6_BYTES"), (1, u "IPV6_GROUPS"), (1, u "GROUP_HEX_DIGITS"), (0, u "OCTET_DECIMAL_DIGITS"), (1, u "OCTET_MAX"), (11, u "()[B")] 38

def k3c0 : Code := { maxStack := 2, maxLocals := 2, code := prog_20_method_1_code, exceptionTable := #[], attributes := #[] }
def k3m0 : Method := { name := "<init>", desc := "([B)V", sig := { parameters := [(.array .byte)], returnType := none }, accessFlags := 0, code := some k3c0 }
def k3c1 : Code := { maxStack := 1, maxLocals := 1, code := prog_20_method_5_code, exceptionTable := #[], attributes := #[] }
def k3m1 : Method := { name := "bytes", desc := "()[B", sig := { parameters := [], returnType := some (.array .byte) }, accessFlags := 0, code := some k3c1 }
/-- com/example/veiled_alerts/veiledalerts/model/IpAddress -/
def k3 : Class := { plain "com/example/veiled_alerts/veiledalerts/model/IpAddress" (some 0) with
  accessFlags := 49
  interfaces := #[2]
  cf := some (fileOf pool3 8 #[] #[{ accessFlags := 0, nameIndex := 5, descriptorIndex := 55, attributes := #[] }, { accessFlags := 0, nameIndex := 11, descriptorIndex := 179, attributes := #[] }] 49 2 #[150] #[{ accessFlags := 25, nameIndex := 152, descriptorIndex := 153, attributes := #[] }, { accessFlags := 25, nameIndex := 156, descriptorIndex := 153, attributes := #[] }, { accessFlags := 26, nameIndex := 158, descriptorIndex := 153, attributes := #[] }, { accessFlags := 26, nameIndex := 160, descriptorIndex := 153, attributes := #[] }, { accessFlags := 26, nameIndex := 162, descriptorIndex := 153, attributes := #[] }, { accessFlags := 26, nameIndex := 164, descriptorIndex := 153, attributes := #[] }, { accessFlags := 26, nameIndex := 165, descriptorIndex := 153, attributes := #[] }, { accessFlags := 26, nameIndex := 167, descriptorIndex := 153, attributes := #[] }, { accessFlags := 26, nameIndex := 42, descriptorIndex := 12, attributes := #[] }, { accessFlags := 18, nameIndex := 11, descriptorIndex := 12, attributes := #[] }])
  fields := #[{ name := "IPV4_BITS", type := .int, accessFlags := 25, slot := 0, constantValue := 0 }, { name := "IPV6_BITS", type := .int, accessFlags := 25, slot := 1, constantValue := 0 }, { name := "IPV4_BYTES", type := .int, accessFlags := 26, slot := 2, constantValue := 0 }, { name := "IPV6_BYTES", type := .int, accessFlags := 26, slot := 3, constantValue := 0 }, { name := "IPV6_GROUPS", type := .int, accessFlags := 26, slot := 4, constantValue := 0 }, { name := "GROUP_HEX_DIGITS", type := .int, accessFlags := 26, slot := 5, constantValue := 0 }, { name := "OCTET_DECIMAL_DIGITS", type := .int, accessFlags := 26, slot := 6, constantValue := 0 }, { name := "OCTET_MAX", type := .int, accessFlags := 26, slot := 7, constantValue := 0 }, { name := "IPV4_MAPPED_PREFIX", type := (.array .byte), accessFlags := 26, slot := 8, constantValue := 0 }, { name := "bytes", type := (.array .byte), accessFlags := 18, slot := 0, constantValue := 0 }]
  methods := #[k3m0, k3m1]
  instanceTypes := #[(.array .byte)]
  staticTypes := #[.int, .int, .int, .int, .int, .int, .int, .int, (.array .byte)]
  resolved := Array.replicate 218 none
  statics := none }

def pool4 : Array CpInfo := pool [(1, .methodref 2 3), (0, .class_ 4), (0, .nameAndType 5 6), (0, u "java/lang/Object"), (0, u "<init>"), (0, u "()V"), (0, .fieldref 8 9), (0, .class_ 10), (0, .nameAndType 11 12), (0, u "com/example/veiled_alerts/veiledalerts/model/Network"), (0, u "address"), (0, u "Lcom/example/veiled_alerts/veiledalerts/model/IpAddress;"), (0, .fieldref 8 14), (0, .nameAndType 15 16), (0, u "prefixLength"), (0, u "I"), (18, .class_ 37), (1, u "com/example/veiled_alerts/veiledalerts/model/IpAddress"), (12, .methodref 35 51), (0, .nameAndType 52 53), (0, u "bytes"), (0, u "()[B"), (19, .methodref 8 74), (0, .nameAndType 5 75), (0, u "(Lcom/example/veiled_alerts/veiledalerts/model/IpAddress;I)V"), (0, .methodref 77 78), (0, .class_ 79), (0, .nameAndType 80 81), (0, u "[B"), (0, u "clone"), (0, u "()Ljava/lang/Object;"), (2, .methodref 35 85), (0, .nameAndType 5 86), (0, u "([B)V"), (17, .methodref 8 105), (0, .nameAndType 106 107), (0, u "hostBits"), (0, u "()I"), (32, u "containing"), (0, u "(Lcom/example/veiled_alerts/veiledalerts/model/IpAddress;I)Lcom/example/veiled_alerts/veiledalerts/model/Network;"), (0, u "(J)Lcom/example/veiled_alerts/veiledalerts/model/IpAddress;")] 46

def k4c0 : Code := { maxStack := 2, maxLocals := 3, code := prog_22_method_1_code, exceptionTable := #[], attributes := #[] }
def k4m0 : Method := { name := "<init>", desc := "(Lcom/example/veiled_alerts/veiledalerts/model/IpAddress;I)V", sig := { parameters := [(.object "com/example/veiled_alerts/veiledalerts/model/IpAddress"), .int], returnType := none }, accessFlags := 2, code := some k4c0 }
def k4c1 : Code := { maxStack := 6, maxLocals := 5, code := prog_22_method_3_code, exceptionTable := #[], attributes := #[] }
def k4m1 : Method := { name := "containing", desc := "(Lcom/example/veiled_alerts/veiledalerts/model/IpAddress;I)Lcom/example/veiled_alerts/veiledalerts/model/Network;", sig := { parameters := [(.object "com/example/veiled_alerts/veiledalerts/model/IpAddress"), .int], returnType := some (.object "com/example/veiled_alerts/veiledalerts/model/Network") }, accessFlags := 9, code := some k4c1 }
def k4c2 : Code := { maxStack := 1, maxLocals := 1, code := prog_22_method_6_code, exceptionTable := #[], attributes := #[] }
def k4m2 : Method := { name := "prefixLength", desc := "()I", sig := { parameters := [], returnType := some .int }, accessFlags := 1, code := some k4c2 }
def k4c3 : Code := { maxStack := 2, maxLocals := 1, code := prog_22_method_7_code, exceptionTable := #[], attributes := #[] }
def k4m3 : Method := { name := "hostBits", desc := "()I", sig := { parameters := [], returnType := some .int }, accessFlags := 1, code := some k4c3 }
def k4c4 : Code := { maxStack := 5, maxLocals := 8, code := prog_22_method_8_code, exceptionTable := #[], attributes := #[] }
def k4m4 : Method := { name := "address", desc := "(J)Lcom/example/veiled_alerts/veiledalerts/model/IpAddress;", sig := { parameters := [.long], returnType := some (.object "com/example/veiled_alerts/veiledalerts/model/IpAddress") }, accessFlags := 1, code := some k4c4 }
/-- com/example/veiled_alerts/veiledalerts/model/Network -/
def k4 : Class := { plain "com/example/veiled_alerts/veiledalerts/model/Network" (some 0) with
  accessFlags := 49
  interfaces := #[]
  cf := some (fileOf pool4 8 #[] #[{ accessFlags := 2, nameIndex := 5, descriptorIndex := 75, attributes := #[] }, { accessFlags := 9, nameIndex := 140, descriptorIndex := 141, attributes := #[] }, { accessFlags := 1, nameIndex := 15, descriptorIndex := 107, attributes := #[] }, { accessFlags := 1, nameIndex := 106, descriptorIndex := 107, attributes := #[] }, { accessFlags := 1, nameIndex := 11, descriptorIndex := 142, attributes := #[] }] 49 2 #[] #[{ accessFlags := 18, nameIndex := 11, descriptorIndex := 12, attributes := #[] }, { accessFlags := 18, nameIndex := 15, descriptorIndex := 16, attributes := #[] }])
  fields := #[{ name := "address", type := (.object "com/example/veiled_alerts/veiledalerts/model/IpAddress"), accessFlags := 18, slot := 0, constantValue := 0 }, { name := "prefixLength", type := .int, accessFlags := 18, slot := 1, constantValue := 0 }]
  methods := #[k4m0, k4m1, k4m2, k4m3, k4m4]
  instanceTypes := #[(.object "com/example/veiled_alerts/veiledalerts/model/IpAddress"), .int]
  staticTypes := #[]
  resolved := Array.replicate 189 none
  statics := none }

def pool5 : Array CpInfo := pool [(1, .class_ 2), (0, u "java/lang/Cloneable"), (0, .class_ 4), (0, u "java/lang/Object")] 2

/-- java/lang/Cloneable -/
def k5 : Class := { plain "java/lang/Cloneable" (some 0) with
  accessFlags := 1537
  interfaces := #[]
  cf := some (fileOf pool5 1 #[] #[] 1537 3 #[] #[])
  fields := #[]
  methods := #[]
  instanceTypes := #[]
  staticTypes := #[]
  resolved := Array.replicate 7 none
  statics := none }

def pool6 : Array CpInfo := pool [(1, u "java/io/Serializable"), (0, .class_ 1), (0, u "java/lang/Object"), (0, .class_ 3)] 3

/-- java/io/Serializable -/
def k6 : Class := { plain "java/io/Serializable" (some 0) with
  accessFlags := 1537
  interfaces := #[]
  cf := some (fileOf pool6 2 #[] #[] 1537 4 #[] #[])
  fields := #[]
  methods := #[]
  instanceTypes := #[]
  staticTypes := #[]
  resolved := Array.replicate 8 none
  statics := none }

/-- the primitive byte -/
def k7 : Class := { plain "byte" none with kind := .primitive 'B', accessFlags := 0x411 }
/-- [B -/
def k8 : Class := { plain "[B" (some 0) with kind := .array 7 .byte, interfaces := #[5, 6], accessFlags := 1041 }

/-- the primitive int -/
def k9 : Class := { plain "int" none with kind := .primitive 'I', accessFlags := 0x411 }
/-- [I -/
def k10 : Class := { plain "[I" (some 0) with kind := .array 9 .int, interfaces := #[5, 6], accessFlags := 1041 }

def heap : Heap := #[]
def classes : Array Class := #[k0, k1, k2, k3, k4, k5, k6, k7, k8, k9, k10]
def interned : List (Array UInt16 × Addr) := []
def slotsUsed : Nat := 0
def theMethod : MethodId := ⟨1, 1⟩
def args0 : Array Value := #[.int 5, .int 7, .long 1, .long 2]
def aboutOver (below : List Frame) : State where
  vm := { classes := classes, interned := interned.toArray }
  heap := heap
  slotsUsed := slotsUsed
  threads := #[{ frames := .invoking theMethod args0 :: below }]
def below0 : List Frame := [.native { method := ⟨0, 0⟩, args := #[] }]
def about1 : State := aboutOver below0
def p0 : Program := .bare "" "" ""
def e0 : Env := launch0.env 0 0 0
theorem w_frames : about1.frames = Frame.invoking theMethod args0 :: below0 := rfl
set_option maxRecDepth 65536 in
theorem w_args : argsFit about1.vm theMethod args0 = true := by decide +kernel
set_option maxRecDepth 65536 in
theorem w_heap : heapFits about1 = true := by decide +kernel
set_option maxRecDepth 65536 in
theorem w_runnable : about1.curStatus? = some .runnable := by decide +kernel
set_option maxRecDepth 65536 in
theorem w_alone : about1.alone = true := by decide +kernel
set_option maxRecDepth 65536 in
theorem w_named : about1.methodNamed? x = some theMethod := by decide +kernel
set_option maxRecDepth 65536 in
theorem w_hears : about1.hears theMethod below0 = true := by decide +kernel
set_option maxRecDepth 65536 in
theorem w_ripe : about1.ripe theMethod args0 below0 = true := by decide +kernel
theorem w_running : about1.status = .running := rfl
set_option maxRecDepth 65536 in
theorem w_room : about1.hasRoom e0.platform room_1 = true :=
  launch0.hasRoom_least _ room_1 (by decide +kernel) (by decide +kernel) (by decide +kernel) (by decide +kernel) (by decide +kernel) (by decide +kernel)
theorem allAtoms_all (ts : List Jvm.Cond) (a : Array Jvm.Value) (st : Jvm.State) : (allAtoms ts).before a st = ts.all (fun c => c.before a st) := by
  induction ts with
  | nil => rfl
  | cons c t ih =>
    show (Jvm.Cond.and c (allAtoms t)).before a st = _
    rw [Jvm.Cond.before_and, ih, List.all_cons]
def words1 : List Jvm.Cond := Jvm.Cond.code x code maxLocals ret :: tables_1
/-- a 'code' word, met by the world's own term for the bytes: nothing is compared byte by byte -/
theorem code_word {y : MethodName} {bytes : ByteArray} {mx : Nat} {rt : Option FieldType} {a : Array Value} {s : State} {m : MethodId} {meth : Method} {c : Code} (h1 : s.methodNamed? y = some m) (h2 : s.vm.method? m = some meth) (h3 : meth.code = some c) (h4 : c.code = bytes)
    (h5 : (c.maxLocals == mx && c.exceptionTable.isEmpty && decide (c.maxStack ≤ mostOperands) && decide (meth.sig.returnType = rt) && !meth.locks && decide (parseMethodDescriptor y.desc = some meth.sig)) = true) : (Jvm.Cond.code y bytes mx rt).before a s = true := by
  simp only [Bool.and_eq_true, beq_iff_eq, Bool.not_eq_true', decide_eq_true_eq] at h5
  obtain ⟨⟨⟨⟨⟨g1, g2⟩, g3⟩, g4⟩, g5⟩, g6⟩ := h5
  simp [Cond.before, Cond.holds, Cond.value, h1, h2, h3, h4, g1, g2, g3, g4, g5, g6]
def isCode : Jvm.Cond → Bool
  | .code _ _ _ _ => true
  | _ => false
theorem all_split {L : List Jvm.Cond} {P : Jvm.Cond → Bool} (h1 : L.all (fun c => isCode c || P c) = true) (h2 : ∀ c ∈ L.filter isCode, P c = true) : L.all P = true := by
  refine List.all_eq_true.mpr fun c hc => ?_
  have h := List.all_eq_true.mp h1 c hc
  rcases Bool.eq_false_or_eq_true (isCode c) with hi | hi
  · exact h2 c (List.mem_filter.mpr ⟨hc, hi⟩)
  · simpa [hi] using h
set_option maxRecDepth 65536 in
theorem w_c0 : (Jvm.Cond.code x code maxLocals ret).before args0 about1 = true := code_word (m := ⟨1, 1⟩) (meth := k1m1) (c := k1c1) (by decide +kernel) rfl rfl rfl (by decide +kernel)
set_option maxRecDepth 65536 in
theorem w_c1 : (Jvm.Cond.code ({ cls := "com/example/veiled_alerts/veiledalerts/model/NetworkContainingPinLaw", name := "put4", desc := "([BII)V" } : Jvm.MethodName) method_5_code (3 : Nat) (Option.none : Option Jvm.ClassFile.FieldType)).before args0 about1 = true := code_word (m := ⟨1, 4⟩) (meth := k1m4) (c := k1c4) (by decide +kernel) rfl rfl rfl (by decide +kernel)
set_option maxRecDepth 65536 in
theorem w_c2 : (Jvm.Cond.code ({ cls := "com/example/veiled_alerts/veiledalerts/model/IpAddress", name := "<init>", desc := "([B)V" } : Jvm.MethodName) prog_20_method_1_code (2 : Nat) (Option.none : Option Jvm.ClassFile.FieldType)).before args0 about1 = true := code_word (m := ⟨3, 0⟩) (meth := k3m0) (c := k3c0) (by decide +kernel) rfl rfl rfl (by decide +kernel)
set_option maxRecDepth 65536 in
theorem w_c3 : (Jvm.Cond.code ({ cls := "java/lang/Object", name := "<init>", desc := "()V" } : Jvm.MethodName) object_method_1_code (1 : Nat) (Option.none : Option Jvm.ClassFile.FieldType)).before args0 about1 = true := code_word (m := ⟨0, 0⟩) (meth := k0m0) (c := k0c0) (by decide +kernel) rfl rfl rfl (by decide +kernel)
set_option maxRecDepth 65536 in
theorem w_c4 : (Jvm.Cond.code ({ cls := "com/example/veiled_alerts/veiledalerts/model/Network", name := "containing", desc := "(Lcom/example/veiled_alerts/veiledalerts/model/IpAddress;I)Lcom/example/veiled_alerts/veiledalerts/model/Network;" } : Jvm.MethodName) prog_22_method_3_code (5 : Nat) (Option.some (Jvm.ClassFile.FieldType.object "com/example/veiled_alerts/veiledalerts/model/Network"))).before args0 about1 = true := code_word (m := ⟨4, 1⟩) (meth := k4m1) (c := k4c1) (by decide +kernel) rfl rfl rfl (by decide +kernel)
set_option maxRecDepth 65536 in
theorem w_c5 : (Jvm.Cond.code ({ cls := "com/example/veiled_alerts/veiledalerts/model/IpAddress", name := "bytes", desc := "()[B" } : Jvm.MethodName) prog_20_method_5_code (1 : Nat) (Option.some (Jvm.ClassFile.FieldType.array Jvm.ClassFile.FieldType.byte))).before args0 about1 = true := code_word (m := ⟨3, 1⟩) (meth := k3m1) (c := k3c1) (by decide +kernel) rfl rfl rfl (by decide +kernel)
set_option maxRecDepth 65536 in
theorem w_c6 : (Jvm.Cond.code ({ cls := "com/example/veiled_alerts/veiledalerts/model/Network", name := "<init>", desc := "(Lcom/example/veiled_alerts/veiledalerts/model/IpAddress;I)V" } : Jvm.MethodName) prog_22_method_1_code (3 : Nat) (Option.none : Option Jvm.ClassFile.FieldType)).before args0 about1 = true := code_word (m := ⟨4, 0⟩) (meth := k4m0) (c := k4c0) (by decide +kernel) rfl rfl rfl (by decide +kernel)
set_option maxRecDepth 65536 in
theorem w_c7 : (Jvm.Cond.code ({ cls := "com/example/veiled_alerts/veiledalerts/model/Network", name := "address", desc := "(J)Lcom/example/veiled_alerts/veiledalerts/model/IpAddress;" } : Jvm.MethodName) prog_22_method_8_code (8 : Nat) (Option.some (Jvm.ClassFile.FieldType.object "com/example/veiled_alerts/veiledalerts/model/IpAddress"))).before args0 about1 = true := code_word (m := ⟨4, 4⟩) (meth := k4m4) (c := k4c4) (by decide +kernel) rfl rfl rfl (by decide +kernel)
set_option maxRecDepth 65536 in
theorem w_c8 : (Jvm.Cond.code ({ cls := "com/example/veiled_alerts/veiledalerts/model/Network", name := "hostBits", desc := "()I" } : Jvm.MethodName) prog_22_method_7_code (1 : Nat) (Option.some Jvm.ClassFile.FieldType.int)).before args0 about1 = true := code_word (m := ⟨4, 3⟩) (meth := k4m3) (c := k4c3) (by decide +kernel) rfl rfl rfl (by decide +kernel)
set_option maxRecDepth 65536 in
theorem w_c9 : (Jvm.Cond.code ({ cls := "com/example/veiled_alerts/veiledalerts/model/Network", name := "prefixLength", desc := "()I" } : Jvm.MethodName) prog_22_method_6_code (1 : Nat) (Option.some Jvm.ClassFile.FieldType.int)).before args0 about1 = true := code_word (m := ⟨4, 2⟩) (meth := k4m2) (c := k4c2) (by decide +kernel) rfl rfl rfl (by decide +kernel)
set_option maxRecDepth 65536 in
theorem w_c10 : (Jvm.Cond.code ({ cls := "com/example/veiled_alerts/veiledalerts/model/NetworkContainingPinLaw", name := "get4", desc := "([BI)I" } : Jvm.MethodName) method_6_code (2 : Nat) (Option.some Jvm.ClassFile.FieldType.int)).before args0 about1 = true := code_word (m := ⟨1, 5⟩) (meth := k1m5) (c := k1c5) (by decide +kernel) rfl rfl rfl (by decide +kernel)
set_option maxRecDepth 65536 in
theorem w_c11 : (Jvm.Cond.code ({ cls := "com/example/veiled_alerts/veiledalerts/model/NetworkContainingPinLaw", name := "put8", desc := "([BIJ)V" } : Jvm.MethodName) method_3_code (4 : Nat) (Option.none : Option Jvm.ClassFile.FieldType)).before args0 about1 = true := code_word (m := ⟨1, 2⟩) (meth := k1m2) (c := k1c2) (by decide +kernel) rfl rfl rfl (by decide +kernel)
set_option maxRecDepth 65536 in
theorem w_c12 : (Jvm.Cond.code ({ cls := "com/example/veiled_alerts/veiledalerts/model/NetworkContainingPinLaw", name := "get8", desc := "([BI)J" } : Jvm.MethodName) method_4_code (2 : Nat) (Option.some Jvm.ClassFile.FieldType.long)).before args0 about1 = true := code_word (m := ⟨1, 3⟩) (meth := k1m3) (c := k1c3) (by decide +kernel) rfl rfl rfl (by decide +kernel)
def codes1 : List Jvm.Cond := [Jvm.Cond.code x code maxLocals ret, Jvm.Cond.code ({ cls := "com/example/veiled_alerts/veiledalerts/model/NetworkContainingPinLaw", name := "put4", desc := "([BII)V" } : Jvm.MethodName) method_5_code (3 : Nat) (Option.none : Option Jvm.ClassFile.FieldType), Jvm.Cond.code ({ cls := "com/example/veiled_alerts/veiledalerts/model/IpAddress", name := "<init>", desc := "([B)V" } : Jvm.MethodName) prog_20_method_1_code (2 : Nat) (Option.none : Option Jvm.ClassFile.FieldType), Jvm.Cond.code ({ cls := "java/lang/Object", name := "<init>", desc := "()V" } : Jvm.MethodName) object_method_1_code (1 : Nat) (Option.none : Option Jvm.ClassFile.FieldType), Jvm.Cond.code ({ cls := "com/example/veiled_alerts/veiledalerts/model/Network", name := "containing", desc := "(Lcom/example/veiled_alerts/veiledalerts/model/IpAddress;I)Lcom/example/veiled_alerts/veiledalerts/model/Network;" } : Jvm.MethodName) prog_22_method_3_code (5 : Nat) (Option.some (Jvm.ClassFile.FieldType.object "com/example/veiled_alerts/veiledalerts/model/Network")), Jvm.Cond.code ({ cls := "com/example/veiled_alerts/veiledalerts/model/IpAddress", name := "bytes", desc := "()[B" } : Jvm.MethodName) prog_20_method_5_code (1 : Nat) (Option.some (Jvm.ClassFile.FieldType.array Jvm.ClassFile.FieldType.byte)), Jvm.Cond.code ({ cls := "com/example/veiled_alerts/veiledalerts/model/Network", name := "<init>", desc := "(Lcom/example/veiled_alerts/veiledalerts/model/IpAddress;I)V" } : Jvm.MethodName) prog_22_method_1_code (3 : Nat) (Option.none : Option Jvm.ClassFile.FieldType), Jvm.Cond.code ({ cls := "com/example/veiled_alerts/veiledalerts/model/Network", name := "address", desc := "(J)Lcom/example/veiled_alerts/veiledalerts/model/IpAddress;" } : Jvm.MethodName) prog_22_method_8_code (8 : Nat) (Option.some (Jvm.ClassFile.FieldType.object "com/example/veiled_alerts/veiledalerts/model/IpAddress")), Jvm.Cond.code ({ cls := "com/example/veiled_alerts/veiledalerts/model/Network", name := "hostBits", desc := "()I" } : Jvm.MethodName) prog_22_method_7_code (1 : Nat) (Option.some Jvm.ClassFile.FieldType.int), Jvm.Cond.code ({ cls := "com/example/veiled_alerts/veiledalerts/model/Network", name := "prefixLength", desc := "()I" } : Jvm.MethodName) prog_22_method_6_code (1 : Nat) (Option.some Jvm.ClassFile.FieldType.int), Jvm.Cond.code ({ cls := "com/example/veiled_alerts/veiledalerts/model/NetworkContainingPinLaw", name := "get4", desc := "([BI)I" } : Jvm.MethodName) method_6_code (2 : Nat) (Option.some Jvm.ClassFile.FieldType.int), Jvm.Cond.code ({ cls := "com/example/veiled_alerts/veiledalerts/model/NetworkContainingPinLaw", name := "put8", desc := "([BIJ)V" } : Jvm.MethodName) method_3_code (4 : Nat) (Option.none : Option Jvm.ClassFile.FieldType), Jvm.Cond.code ({ cls := "com/example/veiled_alerts/veiledalerts/model/NetworkContainingPinLaw", name := "get8", desc := "([BI)J" } : Jvm.MethodName) method_4_code (2 : Nat) (Option.some Jvm.ClassFile.FieldType.long)]
set_option maxRecDepth 65536 in
theorem codes_eq : words1.filter isCode = codes1 := rfl
theorem w_codes : ∀ c ∈ words1.filter isCode, c.before args0 about1 = true := by
  rw [codes_eq]
  intro c hc
  simp only [codes1, List.mem_cons, List.not_mem_nil, or_false] at hc
  rcases hc with rfl | rfl | rfl | rfl | rfl | rfl | rfl | rfl | rfl | rfl | rfl | rfl | rfl
  · exact w_c0
  · exact w_c1
  · exact w_c2
  · exact w_c3
  · exact w_c4
  · exact w_c5
  · exact w_c6
  · exact w_c7
  · exact w_c8
  · exact w_c9
  · exact w_c10
  · exact w_c11
  · exact w_c12
set_option maxRecDepth 65536 in
theorem w_t1 : (words1.take 24).all (fun c => isCode c || c.before args0 about1) = true := by decide +kernel
set_option maxRecDepth 65536 in
theorem w_t2 : ((words1.drop 24).take 24).all (fun c => isCode c || c.before args0 about1) = true := by decide +kernel
set_option maxRecDepth 65536 in
theorem w_t3 : (((words1.drop 24).drop 24).take 24).all (fun c => isCode c || c.before args0 about1) = true := by decide +kernel
set_option maxRecDepth 65536 in
theorem w_t4 : (((words1.drop 24).drop 24).drop 24).all (fun c => isCode c || c.before args0 about1) = true := by decide +kernel
theorem w_tables : (allAtoms (Jvm.Cond.code x code maxLocals ret :: tables_1)).before args0 about1 = true := by
  rw [allAtoms_all]
  show words1.all (fun c => c.before args0 about1) = true
  refine all_split ?_ w_codes
  rw [← List.take_append_drop 24 words1, List.all_append, w_t1, ← List.take_append_drop 24 (words1.drop 24), List.all_append, w_t2, ← List.take_append_drop 24 ((words1.drop 24).drop 24), List.all_append, w_t3, w_t4]
  rfl
set_option maxRecDepth 65536 in
theorem w_case : (Jvm.Cond.and given_1 narrow_1).before args0 about1 = true := by decide +kernel
theorem w_applies : (headSpec (Jvm.Cond.code x code maxLocals ret :: tables_1) room_1).applies x e0.platform about1 = true :=
  (Spec.applies_iff w_frames).mpr ⟨w_running, w_runnable, w_alone, w_named, w_hears, w_ripe, w_room, w_tables⟩
theorem atStart : AtStart classFile x code maxLocals ret World_1 tables_1 room_1 Calls_1 rest_1 Pre_1 launch0 p0 e0 about1 theMethod args0 below0 :=
  ⟨lists_1, trivial, launch0.admits_env _ _ _, launch0.least_env, fairChoices_fair.cas, fairChoices_fair.clock, w_frames, w_args, w_heap, w_applies, trivial, trivial, w_case⟩
end start1
theorem witness_1 : WitnessClaimed_1 := ⟨start1.p0, start1.e0, start1.about1, start1.theMethod, start1.args0, start1.below0, start1.atStart⟩
end Jvm.Pilot.@@N@@
