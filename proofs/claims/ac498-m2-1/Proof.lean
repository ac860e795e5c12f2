import JvmDerived
import JvmDerived.Pilot.@@N@@Statement
import JvmDerived.Pilot.@@N@@Code
set_option linter.unusedVariables false
set_option linter.unusedSimpArgs false
namespace Jvm.Pilot.@@N@@
open Jvm Jvm.ClassFile Sem Op Lib Jvm.Free Jvm.Stand Jvm.LawKit Jvm.RoadKit Bundle Jvm.Pilot.@@N@@.Jvm.D
section OwnKit
variable {p : Program} {l : Launch} {e : Env} {R : Room} {s : State} {m : MethodId} {args : Array Value} {below : List Frame} {meth : Method} {c : Code} {T : State} {locs : List Loc} {cells slots : Nat} {Z : State} {a0 : Array Value} {h : Heap} {Q : Option Value → Heap → List Loc → Prop} {kc ks : Nat}
/-- from the state F the run comes to its return, with what Q says -/
def OGo (p : Program) (e : Env) (below : List Frame) (s : State) (Q : Option Value → Heap → List Loc → Prop) (kc ks : Nat) (F : State) : Prop :=
  ∃ (s₂ : State) (o : Outcome), Steps p.tables e below F s₂ ∧ s₂.status = .running ∧ Ended s₂ below o ∧ ∃ v L, o = .returned v ∧ Q v s₂.heap L ∧ FrameEnd s o s₂ L kc ks
theorem OGo.step {F F' : State} (k : ∀ t, Steps p.tables e below F' t → Steps p.tables e below F t) (g : OGo p e below s Q kc ks F') : OGo p e below s Q kc ks F := by
  obtain ⟨s₂, o, h, r⟩ := g
  exact ⟨s₂, o, k _ h, r⟩
theorem OGo.retOut (X : Stand p l e R s m args below meth c T locs cells slots) (hx : p.tables.exec = Jvm.exec) (hlk : meth.locks = false) {pc : Nat} {Ls : Array Slot} {w : Value} {t : FieldType} {i : Instr} {rest : List Value} (hret : meth.sig.returnType = some t) (hn : narrow t w = w)
    (hi : (i = .ireturn ∧ (t = .int ∨ t = .boolean ∨ t = .byte ∨ t = .char ∨ t = .short) ∧ ∃ z, w = .int z) ∨ (i = .lreturn ∧ t = .long ∧ ∃ z, w = .long z) ∨ (i = .dreturn ∧ t = .double ∧ ∃ z, w = .double z) ∨ (i = .freturn ∧ t = .float ∧ ∃ z, w = .float z) ∨ (i = .areturn ∧ t.isReference = true ∧ w.isRef = true))
    (hd : decode c.code pc = .ok (i, 1)) (hQ : Q (some w) T.heap locs) (hc : cells ≤ kc) (hs : slots ≤ ks) : OGo p e below s Q kc ks (T.setTop (mkF m pc Ls (w :: rest))) := by
  obtain ⟨fs, hr, hrun, hended, hW, hsame⟩ := X.leave (v := some w) (fun h => by rw [hret] at h; cases h) hlk
  exact ⟨_, _, Jvm.RoadKit.retOut X hx hret hn hi hd hr, hrun, hended, _, _, rfl, hQ, ⟨_, rfl⟩, hW, hsame.mono hc hs⟩
theorem OGo.retI (X : Stand p l e R s m args below meth c T locs cells slots) (hx : p.tables.exec = Jvm.exec) (hlk : meth.locks = false) {pc : Nat} {Ls : Array Slot} {z : Int32} {rest : List Value} (hret : meth.sig.returnType = some .int) (hd : decode c.code pc = .ok (.ireturn, 1)) (hQ : Q (some (.int z)) T.heap locs) (hc : cells ≤ kc) (hs : slots ≤ ks) :
    OGo p e below s Q kc ks (T.setTop (mkF m pc Ls (.int z :: rest))) := OGo.retOut X hx hlk hret rfl (Or.inl ⟨rfl, Or.inl rfl, _, rfl⟩) hd hQ hc hs
theorem OGo.retJ (X : Stand p l e R s m args below meth c T locs cells slots) (hx : p.tables.exec = Jvm.exec) (hlk : meth.locks = false) {pc : Nat} {Ls : Array Slot} {z : Int64} {rest : List Value} (hret : meth.sig.returnType = some .long) (hd : decode c.code pc = .ok (.lreturn, 1)) (hQ : Q (some (.long z)) T.heap locs) (hc : cells ≤ kc) (hs : slots ≤ ks) :
    OGo p e below s Q kc ks (T.setTop (mkF m pc Ls (.long z :: rest))) := OGo.retOut X hx hlk hret rfl (Or.inr (Or.inl ⟨rfl, rfl, _, rfl⟩)) hd hQ hc hs
theorem OGo.retA (X : Stand p l e R s m args below meth c T locs cells slots) (hx : p.tables.exec = Jvm.exec) (hlk : meth.locks = false) {pc : Nat} {Ls : Array Slot} {w : Value} {t : FieldType} {rest : List Value} (hret : meth.sig.returnType = some t) (ht : t.isReference = true) (hw : w.isRef = true) (hn : narrow t w = w) (hd : decode c.code pc = .ok (.areturn, 1)) (hQ : Q (some w) T.heap locs) (hc : cells ≤ kc) (hs : slots ≤ ks) :
    OGo p e below s Q kc ks (T.setTop (mkF m pc Ls (w :: rest))) := OGo.retOut X hx hlk hret hn (Or.inr (Or.inr (Or.inr (Or.inr ⟨rfl, ht, hw⟩)))) hd hQ hc hs
theorem OGo.retZ (X : Stand p l e R s m args below meth c T locs cells slots) (hx : p.tables.exec = Jvm.exec) (hlk : meth.locks = false) {pc : Nat} {Ls : Array Slot} {z z' : Int32} {t : FieldType} {rest : List Value} (hret : meth.sig.returnType = some t) (ht : t = .boolean ∨ t = .byte ∨ t = .char ∨ t = .short) (hd : decode c.code pc = .ok (.ireturn, 1)) (hz : nar t z = z') (hQ : Q (some (.int z')) T.heap locs) (hc : cells ≤ kc) (hs : slots ≤ ks) :
    OGo p e below s Q kc ks (T.setTop (mkF m pc Ls (.int z :: rest))) := by
  subst hz
  obtain ⟨fs, hr, hrun, hended, hW, hsame⟩ := X.leave (v := some (.int (nar t z))) (fun h => by rw [hret] at h; cases h) hlk
  exact ⟨_, _, Jvm.RoadKit.retN X hx hret ht hd hr, hrun, hended, _, _, rfl, hQ, ⟨_, rfl⟩, hW, hsame.mono hc hs⟩
theorem OGo.retV (X : Stand p l e R s m args below meth c T locs cells slots) (hx : p.tables.exec = Jvm.exec) (hlk : meth.locks = false) {pc : Nat} {Ls : Array Slot} (hret : meth.sig.returnType = none) (hd : decode c.code pc = .ok (.return_, 1)) (hQ : Q none T.heap locs) (hc : cells ≤ kc) (hs : slots ≤ ks) :
    OGo p e below s Q kc ks (T.setTop (mkF m pc Ls [])) := by
  obtain ⟨fs, hr, hrun, hended, hW, hsame⟩ := X.leave (v := none) (fun _ => rfl) hlk
  exact ⟨_, _, X.returnOut hx hret hd hr, hrun, hended, _, _, rfl, hQ, ⟨_, rfl⟩, hW, hsame.mono hc hs⟩
/-- a body's contract -/
abbrev OCtr (l : Launch) (Z : State) (y : MethodName) (bytes : ByteArray) (maxL : Nat) (ret : Option FieldType) (ws : List Jvm.Cond) (rm : Room) (as' : Array Value) (h0 : Heap) (Q : Option Value → Heap → List Loc → Prop) : Prop :=
  MetFree l y (head1 (Jvm.Cond.code y bytes maxL ret :: ws) rm) (fun a U => a = as' ∧ Z.Warmed39 U.vm ∧ U.heap = h0) (fun _ _ _ _ _ => True) (fun _ U o U' => ∃ v L, o = .returned v ∧ Q v U'.heap L ∧ FrameEnd U o U' L rm.cells rm.slots)
theorem OCtr.of {y : MethodName} {bytes : ByteArray} {maxL : Nat} {ret : Option FieldType} {ws : List Jvm.Cond} {rm : Room} {as' : Array Value} (hp : plainFor y = true)
    (k : ∀ (p : Program) (e : Env) (s : State) (m : MethodId) (below : List Frame) (meth : Method) (c : Code) (s₁ : State), Stand p l e rm s m as' below meth c s₁ [] 0 0 → p.tables.exec = Jvm.exec → meth.locks = false → Z.Warmed39 s.vm → s.vm.findClass y.cls = some m.cls → meth.name = y.name → c.code = bytes → c.maxLocals = maxL → meth.sig.returnType = ret → s₁.heap = h →
      OGo p e below s Q rm.cells rm.slots (s₁.setTop (entryFrame m as' maxL))) : OCtr l Z y bytes maxL ret ws rm as' h Q := by
  refine MetFree.of_bodySF hp hisR ?_
  intro p e s m args below meth c s₁ Bd hml0 hP hK
  obtain ⟨rfl, hZ, hh⟩ := hP
  exact k p e s m below meth c s₁ (Stand.of_body Bd) Bd.exec Bd.notSynchronized hZ (findClass_of_methodNamed Bd.named) (name_of_methodNamed Bd.named Bd.method).1 Bd.bytes hml0 Bd.returns (by rw [← hh, Bd.state]; rfl)
/-- it returns w, and the heap is as it was -/
def OPure (w : Option Value) (h0 : Heap) (n0 : Nat) : Option Value → Heap → List Loc → Prop := fun v h L => v = w ∧ Fr n0 L ∧ h = h0
theorem OGo.callS (X : Stand p l e R s m args below meth c T locs cells slots) (hx : p.tables.exec = Jvm.exec) (hZ : Z.Warmed39 s.vm) {own : String} {index : Nat} {y : MethodName} {bytes : ByteArray} {maxL : Nat} {ret : Option FieldType} (hown : s.vm.findClass own = some m.cls)
    (wl : (Jvm.Cond.methodLink own index y).before a0 Z = true) (wst : (Jvm.Cond.static y).before a0 Z = true) (wi : (Jvm.Cond.initialized y.cls).before a0 Z = true) (wc : (Jvm.Cond.code y bytes maxL ret).before a0 Z = true) (hy : y.cls ≠ "java/lang/invoke/MethodHandle" ∧ y.cls ≠ "java/lang/invoke/VarHandle")
    {rm : Room} {as' : Array Value} {Q' : Option Value → Heap → List Loc → Prop} (hM : OCtr l Z y bytes maxL ret [] rm as' h Q') {W : Nat} (hf : rm.frames + 1 ≤ R.frames) (hl : W + (maxL + 11) + rm.locals ≤ R.locals)
    {g : JFrame} (hg : g.method = m) (hsize : g.locals.size = c.maxLocals) {argsL rest : List Value} (hlen : ∀ sig, parseMethodDescriptor y.desc = some sig → argsL.length = sig.parameters.length) (hstack : g.stack = argsL.reverse ++ rest) (hW : 2 * g.monitorRoom + (rest.map fun v => v.category).sum ≤ W) (hdg : decode c.code g.pc = .ok (.invokestatic index, 3))
    (ha : argsL.toArray = as') (e0 : T.heap = h) (hc : cells + rm.cells ≤ R.cells) (hs : slots + rm.slots ≤ R.slots)
    (k : ∀ (v : Option Value) (T' : State) (L' : List Loc), Stand p l e R s m args below meth c T' (locs ++ L') (cells + rm.cells) (slots + rm.slots) → Q' v T'.heap L' → OGo p e below s Q kc ks (T'.setTop { g with pc := g.pc + 3, stack := v.toList ++ rest })) : OGo p e below s Q kc ks (T.setTop g) := by
  obtain ⟨v, _, ⟨T', L', k', n'⟩, -, X', ⟨Lc, hQ, l', y', z'⟩, st⟩ := Jvm.LawKit.callS X hx hown (mvT hZ wl) (mvT hZ wst) (mvT hZ wi) (mvT hZ wc) hy (backOf (W := W) hM hZ wc wi hf hl) hg hsize hlen hstack hW hdg (fun _ _ => ⟨ha, e0, hc, hs⟩)
  dsimp only [Pt.U, Pt.locs, Pt.cells, Pt.slots] at X' l' y' z' st hQ
  subst l' y' z'
  exact OGo.step st (k v T' Lc X' hQ)
theorem OGo.callV (X : Stand p l e R s m args below meth c T locs cells slots) (hx : p.tables.exec = Jvm.exec) (hZ : Z.Warmed39 s.vm) {own C : String} {index : Nat} {y z : MethodName} {bytes : ByteArray} {maxL : Nat} {ret : Option FieldType} (hown : s.vm.findClass own = some m.cls)
    (wl : (Jvm.Cond.methodLink own index y).before a0 Z = true) (wd : (Jvm.Cond.declares y).before a0 Z = true) (hnf : NotFace s y) (wsel : (Jvm.Cond.selects C y z).before a0 Z = true) (win : (Jvm.Cond.instanceMethod z).before a0 Z = true) (wi : (Jvm.Cond.initialized z.cls).before a0 Z = true) (wc : (Jvm.Cond.code z bytes maxL ret).before a0 Z = true) (hy : y.cls ≠ "java/lang/invoke/MethodHandle" ∧ y.cls ≠ "java/lang/invoke/VarHandle")
    {rm : Room} {as' : Array Value} {Q' : Option Value → Heap → List Loc → Prop} (hM : OCtr l Z z bytes maxL ret [] rm as' h Q') {W : Nat} (hf : rm.frames + 1 ≤ R.frames) (hl : W + (maxL + 11) + rm.locals ≤ R.locals) {b : Addr} (E : Exa Z h b C)
    {g : JFrame} (hg : g.method = m) (hsize : g.locals.size = c.maxLocals) {argsL rest : List Value} (hlen : ∀ sig, parseMethodDescriptor y.desc = some sig → argsL.length = sig.parameters.length) (hstack : g.stack = argsL.reverse ++ .ref b :: rest) (hW : 2 * g.monitorRoom + (rest.map fun v => v.category).sum ≤ W) (hdg : decode c.code g.pc = .ok (.invokevirtual index, 3))
    (ha : (.ref b :: argsL).toArray = as') (e0 : T.heap = h) (hc : cells + rm.cells ≤ R.cells) (hs : slots + rm.slots ≤ R.slots)
    (k : ∀ (v : Option Value) (T' : State) (L' : List Loc), Stand p l e R s m args below meth c T' (locs ++ L') (cells + rm.cells) (slots + rm.slots) → Q' v T'.heap L' → OGo p e below s Q kc ks (T'.setTop { g with pc := g.pc + 3, stack := v.toList ++ rest })) : OGo p e below s Q kc ks (T.setTop g) := by
  obtain ⟨cq, kq, q1, q2, q3⟩ := isOf hZ e0 E
  obtain ⟨v, _, ⟨T', L', k', n'⟩, -, X', ⟨Lc, hQ, l', y', z'⟩, st⟩ := X.virtualBack hx hown (mvT hZ wl) (mvT hZ wd) hnf (mvT hZ wsel) (mvT hZ win) hy (backOf (W := W) hM hZ wc wi hf hl) q1 q3 hg hsize (Steps.refl _) hlen hstack hW hdg (fun _ _ => ⟨ha, e0, hc, hs⟩)
  dsimp only [Pt.U, Pt.locs, Pt.cells, Pt.slots] at X' l' y' z' st hQ
  subst l' y' z'
  exact OGo.step (fun t q => st.trans q) (k v T' Lc X' hQ)
theorem OGo.callC (X : Stand p l e R s m args below meth c T locs cells slots) (hx : p.tables.exec = Jvm.exec) (hZ : Z.Warmed39 s.vm) {own : String} {index : Nat} {y : MethodName} {bytes : ByteArray} {maxL : Nat} (hy1 : y.name = "<init>") (hown : s.vm.findClass own = some m.cls)
    (wl : (Jvm.Cond.methodLink own index y).before a0 Z = true) (win : (Jvm.Cond.instanceMethod y).before a0 Z = true) (wi : (Jvm.Cond.initialized y.cls).before a0 Z = true) (wc : (Jvm.Cond.code y bytes maxL none).before a0 Z = true) (hy : y.cls ≠ "java/lang/invoke/MethodHandle" ∧ y.cls ≠ "java/lang/invoke/VarHandle")
    {rm : Room} {as' : Array Value} {Q' : Option Value → Heap → List Loc → Prop} (hM : OCtr l Z y bytes maxL none [] rm as' h Q') {W : Nat} (hf : rm.frames + 1 ≤ R.frames) (hl : W + (maxL + 11) + rm.locals ≤ R.locals) {b : Addr}
    {g : JFrame} (hg : g.method = m) (hsize : g.locals.size = c.maxLocals) {argsL rest : List Value} (hlen : ∀ sig, parseMethodDescriptor y.desc = some sig → argsL.length = sig.parameters.length) (hstack : g.stack = argsL.reverse ++ .ref b :: rest) (hW : 2 * g.monitorRoom + (rest.map fun v => v.category).sum ≤ W) (hdg : decode c.code g.pc = .ok (.invokespecial index, 3))
    (ha : (.ref b :: argsL).toArray = as') (e0 : T.heap = h) (hc : cells + rm.cells ≤ R.cells) (hs : slots + rm.slots ≤ R.slots)
    (k : ∀ (v : Option Value) (T' : State) (L' : List Loc), Stand p l e R s m args below meth c T' (locs ++ L') (cells + rm.cells) (slots + rm.slots) → Q' v T'.heap L' → OGo p e below s Q kc ks (T'.setTop { g with pc := g.pc + 3, stack := v.toList ++ rest })) : OGo p e below s Q kc ks (T.setTop g) := by
  obtain ⟨v, _, ⟨T', L', k', n'⟩, -, X', ⟨Lc, hQ, l', y', z'⟩, st⟩ := X.specialBack hx hy1 hown (mvT hZ wl) (mvT hZ win) (mvT hZ wc) hy (backOf (W := W) hM hZ wc wi hf hl) hg hsize (Steps.refl _) hlen hstack hW hdg (fun _ _ => ⟨ha, e0, hc, hs⟩)
  dsimp only [Pt.U, Pt.locs, Pt.cells, Pt.slots] at X' l' y' z' st hQ
  subst l' y' z'
  exact OGo.step (fun t q => st.trans q) (k v T' Lc X' hQ)
theorem own_wd (hw : ∀ d ∈ tables_1, d.before a0 Z = true) (i : Nat) {d : Jvm.Cond} (q : tables_1[i]? = some d) : d.before a0 Z = true := hw _ (List.mem_of_getElem? q)
theorem own_narc (x : Int32) : nar .char (x.toUInt32.toUInt16.toUInt32.toInt32) = x.toUInt32.toUInt16.toUInt32.toInt32 := by
  show x.toUInt32.toUInt16.toUInt32.toInt32.toUInt32.toUInt16.toUInt32.toInt32 = _
  simp only [UInt32.toUInt32_toInt32, UInt16.toUInt16_toUInt32]
theorem own_obj {a : Addr} {C : String} (F : Exa Z h a C) : ∃ cell : Cell, h[a]? = some cell ∧ cell.vm.isStatics = false := by
  obtain ⟨cell, _, h1, -, -, h4, -⟩ := F; exact ⟨cell, h1, h4⟩
theorem own_stakeep {h' : Heap} {ws : List Addr} {C n d : String} {v : Value} (F : Sta Z h C n d v) (K : Keep h h' ws) (q : ∀ x ∈ ws, ∃ cell : Cell, h[x]? = some cell ∧ cell.vm.isStatics = false) : Sta Z h' C n d v := by
  obtain ⟨cf, i, k, f, st, cell, h1, h2, h3, h4, h5, h6, h7⟩ := F
  refine ⟨cf, i, k, f, st, cell, h1, h2, h3, h4, K.2.1 _ _ h5 fun hm => ?_, h6, h7⟩
  obtain ⟨c', g1, g2⟩ := q _ hm
  cases g1.symm.trans h5
  rw [h6] at g2; cases g2
end OwnKit
/-! body 9: java/lang/Math.abs:(J)J -/
theorem d9_0 : decode jdk_29_method_61_code 0 = .ok (.lload_n 0, 1) := by decide +kernel
theorem d9_1 : decode jdk_29_method_61_code 1 = .ok (.lconst 0, 1) := by decide +kernel
theorem d9_2 : decode jdk_29_method_61_code 2 = .ok (.lcmp, 1) := by decide +kernel
theorem d9_3 : decode jdk_29_method_61_code 3 = .ok (.ifCond .ge 8, 3) := by decide +kernel
theorem d9_6 : decode jdk_29_method_61_code 6 = .ok (.lload_n 0, 1) := by decide +kernel
theorem d9_7 : decode jdk_29_method_61_code 7 = .ok (.lneg, 1) := by decide +kernel
theorem d9_8 : decode jdk_29_method_61_code 8 = .ok (.goto 4, 3) := by decide +kernel
theorem d9_11 : decode jdk_29_method_61_code 11 = .ok (.lload_n 0, 1) := by decide +kernel
theorem d9_12 : decode jdk_29_method_61_code 12 = .ok (.lreturn, 1) := by decide +kernel
theorem ef_9 (m : MethodId) (x0 : Int64) : entryFrame m #[(.long x0)] 2 = mkF m 0 #[.val (.long x0), .second] [] := by first | (simp [entryFrame, mkF, argsToLocals, Value.category]; done) | rfl
def f9 (q0 : Int64) : Int64 :=
  if (lcmpW q0 (0 : Int64)) < (0 : Int32) then (-q0)
  else q0
set_option maxRecDepth 65536 in
set_option maxHeartbeats 40000000 in
theorem rm9 (l : Launch) (Z : State) (az : Array Value) (hw : ∀ d ∈ tables_1, d.before az Z = true) (ws : List Jvm.Cond) (q0 : Int64) (h0 : Heap) (n0 : Nat) (Z0 : n0 ≤ h0.size) :
    OCtr l Z (⟨"java/lang/Math", "abs", "(J)J"⟩ : MethodName) jdk_29_method_61_code 2 (some .long) ws ({ frames := 0, cells := 0, slots := 0, locals := 0 } : Room) #[(.long q0)] h0 (OPure (some (.long (f9 q0))) h0 n0) := by
  refine OCtr.of (Jvm.Free.JP.mathPlain rfl (by decide +kernel)) ?_
  intro p e s m below meth c s₁ X0 hx hlk hZ hown0 hnm hby hml0 hret e0
  have hown : s.vm.findClass "java/lang/Math" = some m.cls := hown0
  have hml : c.maxLocals = 2 := hml0
  have N0 := Fr.nil n0
  refine OGo.step (fun t k => castTop (ef_9 m q0) k) ?_
  refine OGo.step (F' := s₁.setTop (mkF m 3 #[.val (.long q0), .second] [(.int (lcmpW q0 (0 : Int64)))])) (fun t kt => ?_) ?_
  · show Steps p.tables e below (s₁.setTop (mkF m 0 #[.val (.long q0), .second] [])) t
    refine XS.lloadN X0.here hx rfl (hb hby d9_0) rfl ?_
    show Steps p.tables e below (s₁.setTop (mkF m 1 #[.val (.long q0), .second] [(.long q0)])) t
    refine XS.lconst X0.here hx rfl (hb hby d9_1) ?_
    show Steps p.tables e below (s₁.setTop (mkF m 2 #[.val (.long q0), .second] [(.long (0 : Int64)), (.long q0)])) t
    refine XS.lcmp X0.here hx rfl (hb hby d9_2) rfl ?_
    exact kt
  by_cases hc3 : (lcmpW q0 (0 : Int64)) < (0 : Int32)
  · refine OGo.step (F' := s₁.setTop (mkF m 6 #[.val (.long q0), .second] [])) (fun t kt => ?_) ?_
    · show Steps p.tables e below (s₁.setTop (mkF m 3 #[.val (.long q0), .second] [(.int (lcmpW q0 (0 : Int64)))])) t
      refine XS.ifNo X0.here hx rfl (hb hby d9_3) rfl ((if0 _ _).trans (tlt hc3).2.1) ?_
      exact kt
    refine OGo.step (F' := s₁.setTop (mkF m 12 #[.val (.long q0), .second] [(.long (-q0))])) (fun t kt => ?_) ?_
    · show Steps p.tables e below (s₁.setTop (mkF m 6 #[.val (.long q0), .second] [])) t
      refine XS.lloadN X0.here hx rfl (hb hby d9_6) rfl ?_
      show Steps p.tables e below (s₁.setTop (mkF m 7 #[.val (.long q0), .second] [(.long q0)])) t
      refine XS.lneg X0.here hx rfl (hb hby d9_7) rfl ?_
      show Steps p.tables e below (s₁.setTop (mkF m 8 #[.val (.long q0), .second] [(.long (-q0))])) t
      refine XS.goto X0.here hx rfl (pc0 := 8) (pc' := 12) rfl (hb hby d9_8) (by decide) (by decide) ?_
      exact kt
    refine OGo.retJ X0 hx hlk hret (hb hby d9_12) ?_ (by decide) (by decide)
    exact ⟨(by rw [f9, if_pos hc3]), N0, e0⟩
  · refine OGo.step (F' := s₁.setTop (mkF m 11 #[.val (.long q0), .second] [])) (fun t kt => ?_) ?_
    · show Steps p.tables e below (s₁.setTop (mkF m 3 #[.val (.long q0), .second] [(.int (lcmpW q0 (0 : Int64)))])) t
      refine XS.ifYes X0.here hx rfl (pc0 := 3) (pc' := 11) rfl (hb hby d9_3) rfl ((if0 _ _).trans (flt hc3).2.1) (by decide) (by decide) ?_
      exact kt
    refine OGo.step (F' := s₁.setTop (mkF m 12 #[.val (.long q0), .second] [(.long q0)])) (fun t kt => ?_) ?_
    · show Steps p.tables e below (s₁.setTop (mkF m 11 #[.val (.long q0), .second] [])) t
      refine XS.lloadN X0.here hx rfl (hb hby d9_11) rfl ?_
      exact kt
    refine OGo.retJ X0 hx hlk hret (hb hby d9_12) ?_ (by decide) (by decide)
    exact ⟨(by rw [f9, if_neg hc3]), N0, e0⟩
/-! body 5: java/lang/Math.addExact:(JJ)J -/
theorem d5_0 : decode jdk_29_method_25_code 0 = .ok (.lload_n 0, 1) := by decide +kernel
theorem d5_1 : decode jdk_29_method_25_code 1 = .ok (.lload_n 2, 1) := by decide +kernel
theorem d5_2 : decode jdk_29_method_25_code 2 = .ok (.ladd, 1) := by decide +kernel
theorem d5_3 : decode jdk_29_method_25_code 3 = .ok (.lstore 4, 2) := by decide +kernel
theorem d5_5 : decode jdk_29_method_25_code 5 = .ok (.lload_n 0, 1) := by decide +kernel
theorem d5_6 : decode jdk_29_method_25_code 6 = .ok (.lload 4, 2) := by decide +kernel
theorem d5_8 : decode jdk_29_method_25_code 8 = .ok (.lxor, 1) := by decide +kernel
theorem d5_9 : decode jdk_29_method_25_code 9 = .ok (.lload_n 2, 1) := by decide +kernel
theorem d5_10 : decode jdk_29_method_25_code 10 = .ok (.lload 4, 2) := by decide +kernel
theorem d5_12 : decode jdk_29_method_25_code 12 = .ok (.lxor, 1) := by decide +kernel
theorem d5_13 : decode jdk_29_method_25_code 13 = .ok (.land, 1) := by decide +kernel
theorem d5_14 : decode jdk_29_method_25_code 14 = .ok (.lconst 0, 1) := by decide +kernel
theorem d5_15 : decode jdk_29_method_25_code 15 = .ok (.lcmp, 1) := by decide +kernel
theorem d5_16 : decode jdk_29_method_25_code 16 = .ok (.ifCond .ge 13, 3) := by decide +kernel
theorem d5_29 : decode jdk_29_method_25_code 29 = .ok (.lload 4, 2) := by decide +kernel
theorem d5_31 : decode jdk_29_method_25_code 31 = .ok (.lreturn, 1) := by decide +kernel
theorem ef_5 (m : MethodId) (x0 : Int64) (x1 : Int64) : entryFrame m #[(.long x0), (.long x1)] 6 = mkF m 0 #[.val (.long x0), .second, .val (.long x1), .second, .unset, .unset] [] := by first | (simp [entryFrame, mkF, argsToLocals, Value.category]; done) | rfl
def f5 (q0 : Int64) (q1 : Int64) : Int64 :=
  (q0 + q1)
set_option maxRecDepth 65536 in
set_option maxHeartbeats 40000000 in
theorem rm5 (l : Launch) (Z : State) (az : Array Value) (hw : ∀ d ∈ tables_1, d.before az Z = true) (ws : List Jvm.Cond) (q0 : Int64) (q1 : Int64) (h0 : Heap) (n0 : Nat) (Z0 : n0 ≤ h0.size) (hA : ¬ ((lcmpW ((q0 ^^^ (q0 + q1)) &&& (q1 ^^^ (q0 + q1))) (0 : Int64)) < (0 : Int32))) :
    OCtr l Z (⟨"java/lang/Math", "addExact", "(JJ)J"⟩ : MethodName) jdk_29_method_25_code 6 (some .long) ws ({ frames := 0, cells := 0, slots := 0, locals := 0 } : Room) #[(.long q0), (.long q1)] h0 (OPure (some (.long (f5 q0 q1))) h0 n0) := by
  refine OCtr.of (Jvm.Free.JP.mathPlain rfl (by decide +kernel)) ?_
  intro p e s m below meth c s₁ X0 hx hlk hZ hown0 hnm hby hml0 hret e0
  have hown : s.vm.findClass "java/lang/Math" = some m.cls := hown0
  have hml : c.maxLocals = 6 := hml0
  have N0 := Fr.nil n0
  refine OGo.step (fun t k => castTop (ef_5 m q0 q1) k) ?_
  refine OGo.step (F' := s₁.setTop (mkF m 31 #[.val (.long q0), .second, .val (.long q1), .second, .val (.long (q0 + q1)), .second] [(.long (q0 + q1))])) (fun t kt => ?_) ?_
  · show Steps p.tables e below (s₁.setTop (mkF m 0 #[.val (.long q0), .second, .val (.long q1), .second, .unset, .unset] [])) t
    refine XS.lloadN X0.here hx rfl (hb hby d5_0) rfl ?_
    show Steps p.tables e below (s₁.setTop (mkF m 1 #[.val (.long q0), .second, .val (.long q1), .second, .unset, .unset] [(.long q0)])) t
    refine XS.lloadN X0.here hx rfl (hb hby d5_1) rfl ?_
    show Steps p.tables e below (s₁.setTop (mkF m 2 #[.val (.long q0), .second, .val (.long q1), .second, .unset, .unset] [(.long q1), (.long q0)])) t
    refine XS.ladd X0.here hx rfl (hb hby d5_2) rfl ?_
    show Steps p.tables e below (s₁.setTop (mkF m 3 #[.val (.long q0), .second, .val (.long q1), .second, .unset, .unset] [(.long (q0 + q1))])) t
    refine XS.lstore X0.here hx rfl (hb hby d5_3) rfl (l' := #[.val (.long q0), .second, .val (.long q1), .second, .val (.long (q0 + q1)), .second]) rfl ?_
    show Steps p.tables e below (s₁.setTop (mkF m 5 #[.val (.long q0), .second, .val (.long q1), .second, .val (.long (q0 + q1)), .second] [])) t
    refine XS.lloadN X0.here hx rfl (hb hby d5_5) rfl ?_
    show Steps p.tables e below (s₁.setTop (mkF m 6 #[.val (.long q0), .second, .val (.long q1), .second, .val (.long (q0 + q1)), .second] [(.long q0)])) t
    refine XS.lload X0.here hx rfl (hb hby d5_6) rfl ?_
    show Steps p.tables e below (s₁.setTop (mkF m 8 #[.val (.long q0), .second, .val (.long q1), .second, .val (.long (q0 + q1)), .second] [(.long (q0 + q1)), (.long q0)])) t
    refine XS.lxor X0.here hx rfl (hb hby d5_8) rfl ?_
    show Steps p.tables e below (s₁.setTop (mkF m 9 #[.val (.long q0), .second, .val (.long q1), .second, .val (.long (q0 + q1)), .second] [(.long (q0 ^^^ (q0 + q1)))])) t
    refine XS.lloadN X0.here hx rfl (hb hby d5_9) rfl ?_
    show Steps p.tables e below (s₁.setTop (mkF m 10 #[.val (.long q0), .second, .val (.long q1), .second, .val (.long (q0 + q1)), .second] [(.long q1), (.long (q0 ^^^ (q0 + q1)))])) t
    refine XS.lload X0.here hx rfl (hb hby d5_10) rfl ?_
    show Steps p.tables e below (s₁.setTop (mkF m 12 #[.val (.long q0), .second, .val (.long q1), .second, .val (.long (q0 + q1)), .second] [(.long (q0 + q1)), (.long q1), (.long (q0 ^^^ (q0 + q1)))])) t
    refine XS.lxor X0.here hx rfl (hb hby d5_12) rfl ?_
    show Steps p.tables e below (s₁.setTop (mkF m 13 #[.val (.long q0), .second, .val (.long q1), .second, .val (.long (q0 + q1)), .second] [(.long (q1 ^^^ (q0 + q1))), (.long (q0 ^^^ (q0 + q1)))])) t
    refine XS.land X0.here hx rfl (hb hby d5_13) rfl ?_
    show Steps p.tables e below (s₁.setTop (mkF m 14 #[.val (.long q0), .second, .val (.long q1), .second, .val (.long (q0 + q1)), .second] [(.long ((q0 ^^^ (q0 + q1)) &&& (q1 ^^^ (q0 + q1))))])) t
    refine XS.lconst X0.here hx rfl (hb hby d5_14) ?_
    show Steps p.tables e below (s₁.setTop (mkF m 15 #[.val (.long q0), .second, .val (.long q1), .second, .val (.long (q0 + q1)), .second] [(.long (0 : Int64)), (.long ((q0 ^^^ (q0 + q1)) &&& (q1 ^^^ (q0 + q1))))])) t
    refine XS.lcmp X0.here hx rfl (hb hby d5_15) rfl ?_
    show Steps p.tables e below (s₁.setTop (mkF m 16 #[.val (.long q0), .second, .val (.long q1), .second, .val (.long (q0 + q1)), .second] [(.int (lcmpW ((q0 ^^^ (q0 + q1)) &&& (q1 ^^^ (q0 + q1))) (0 : Int64)))])) t
    refine XS.ifYes X0.here hx rfl (pc0 := 16) (pc' := 29) rfl (hb hby d5_16) rfl ((if0 _ _).trans (flt hA).2.1) (by decide) (by decide) ?_
    show Steps p.tables e below (s₁.setTop (mkF m 29 #[.val (.long q0), .second, .val (.long q1), .second, .val (.long (q0 + q1)), .second] [])) t
    refine XS.lload X0.here hx rfl (hb hby d5_29) rfl ?_
    exact kt
  refine OGo.retJ X0 hx hlk hret (hb hby d5_31) ?_ (by decide) (by decide)
  exact ⟨(by rw [f5]), N0, e0⟩
/-! body 7: java/lang/Math.incrementExact:(J)J -/
theorem d7_0 : decode jdk_29_method_38_code 0 = .ok (.lload_n 0, 1) := by decide +kernel
theorem d7_1 : decode jdk_29_method_38_code 1 = .ok (.ldc2_w 135, 3) := by decide +kernel
theorem d7_4 : decode jdk_29_method_38_code 4 = .ok (.lcmp, 1) := by decide +kernel
theorem d7_5 : decode jdk_29_method_38_code 5 = .ok (.ifCond .ne 13, 3) := by decide +kernel
theorem d7_18 : decode jdk_29_method_38_code 18 = .ok (.lload_n 0, 1) := by decide +kernel
theorem d7_19 : decode jdk_29_method_38_code 19 = .ok (.lconst 1, 1) := by decide +kernel
theorem d7_20 : decode jdk_29_method_38_code 20 = .ok (.ladd, 1) := by decide +kernel
theorem d7_21 : decode jdk_29_method_38_code 21 = .ok (.lreturn, 1) := by decide +kernel
theorem ef_7 (m : MethodId) (x0 : Int64) : entryFrame m #[(.long x0)] 2 = mkF m 0 #[.val (.long x0), .second] [] := by first | (simp [entryFrame, mkF, argsToLocals, Value.category]; done) | rfl
def f7 (q0 : Int64) : Int64 :=
  (q0 + (1 : Int64))
set_option maxRecDepth 65536 in
set_option maxHeartbeats 40000000 in
theorem rm7 (l : Launch) (Z : State) (az : Array Value) (hw : ∀ d ∈ tables_1, d.before az Z = true) (ws : List Jvm.Cond) (q0 : Int64) (h0 : Heap) (n0 : Nat) (Z0 : n0 ≤ h0.size) (hI : ¬ ((lcmpW q0 (9223372036854775807 : Int64)) = (0 : Int32))) :
    OCtr l Z (⟨"java/lang/Math", "incrementExact", "(J)J"⟩ : MethodName) jdk_29_method_38_code 2 (some .long) ws ({ frames := 0, cells := 0, slots := 0, locals := 0 } : Room) #[(.long q0)] h0 (OPure (some (.long (f7 q0))) h0 n0) := by
  refine OCtr.of (Jvm.Free.JP.mathPlain rfl (by decide +kernel)) ?_
  intro p e s m below meth c s₁ X0 hx hlk hZ hown0 hnm hby hml0 hret e0
  have hown : s.vm.findClass "java/lang/Math" = some m.cls := hown0
  have hml : c.maxLocals = 2 := hml0
  have N0 := Fr.nil n0
  refine OGo.step (fun t k => castTop (ef_7 m q0) k) ?_
  refine OGo.step (F' := s₁.setTop (mkF m 21 #[.val (.long q0), .second] [(.long (q0 + (1 : Int64)))])) (fun t kt => ?_) ?_
  · show Steps p.tables e below (s₁.setTop (mkF m 0 #[.val (.long q0), .second] [])) t
    refine XS.lloadN X0.here hx rfl (hb hby d7_0) rfl ?_
    show Steps p.tables e below (s₁.setTop (mkF m 1 #[.val (.long q0), .second] [(.long q0)])) t
    refine X0.ldc2Long hx hown (mvT hZ (own_wd hw 37 rfl)) (g := (mkF m 1 #[.val (.long q0), .second] [(.long q0)])) rfl (hb hby d7_1) _ ?_
    show Steps p.tables e below (s₁.setTop (mkF m 4 #[.val (.long q0), .second] [(.long (9223372036854775807 : Int64)), (.long q0)])) t
    refine XS.lcmp X0.here hx rfl (hb hby d7_4) rfl ?_
    show Steps p.tables e below (s₁.setTop (mkF m 5 #[.val (.long q0), .second] [(.int (lcmpW q0 (9223372036854775807 : Int64)))])) t
    refine XS.ifYes X0.here hx rfl (pc0 := 5) (pc' := 18) rfl (hb hby d7_5) rfl ((if0 _ _).trans (feq hI).2) (by decide) (by decide) ?_
    show Steps p.tables e below (s₁.setTop (mkF m 18 #[.val (.long q0), .second] [])) t
    refine XS.lloadN X0.here hx rfl (hb hby d7_18) rfl ?_
    show Steps p.tables e below (s₁.setTop (mkF m 19 #[.val (.long q0), .second] [(.long q0)])) t
    refine XS.lconst X0.here hx rfl (hb hby d7_19) ?_
    show Steps p.tables e below (s₁.setTop (mkF m 20 #[.val (.long q0), .second] [(.long (1 : Int64)), (.long q0)])) t
    refine XS.ladd X0.here hx rfl (hb hby d7_20) rfl ?_
    exact kt
  refine OGo.retJ X0 hx hlk hret (hb hby d7_21) ?_ (by decide) (by decide)
  exact ⟨(by rw [f7]), N0, e0⟩
/-! body 8: java/lang/Math.multiplyExact:(JJ)J -/
theorem d8_0 : decode jdk_29_method_30_code 0 = .ok (.lload_n 0, 1) := by decide +kernel
theorem d8_1 : decode jdk_29_method_30_code 1 = .ok (.lload_n 2, 1) := by decide +kernel
theorem d8_2 : decode jdk_29_method_30_code 2 = .ok (.lmul, 1) := by decide +kernel
theorem d8_3 : decode jdk_29_method_30_code 3 = .ok (.lstore 4, 2) := by decide +kernel
theorem d8_5 : decode jdk_29_method_30_code 5 = .ok (.lload_n 0, 1) := by decide +kernel
theorem d8_6 : decode jdk_29_method_30_code 6 = .ok (.invokestatic 122, 3) := by decide +kernel
theorem d8_9 : decode jdk_29_method_30_code 9 = .ok (.lstore 6, 2) := by decide +kernel
theorem d8_11 : decode jdk_29_method_30_code 11 = .ok (.lload_n 2, 1) := by decide +kernel
theorem d8_12 : decode jdk_29_method_30_code 12 = .ok (.invokestatic 122, 3) := by decide +kernel
theorem d8_15 : decode jdk_29_method_30_code 15 = .ok (.lstore 8, 2) := by decide +kernel
theorem d8_17 : decode jdk_29_method_30_code 17 = .ok (.lload 6, 2) := by decide +kernel
theorem d8_19 : decode jdk_29_method_30_code 19 = .ok (.lload 8, 2) := by decide +kernel
theorem d8_21 : decode jdk_29_method_30_code 21 = .ok (.lor, 1) := by decide +kernel
theorem d8_22 : decode jdk_29_method_30_code 22 = .ok (.bipush 31, 2) := by decide +kernel
theorem d8_24 : decode jdk_29_method_30_code 24 = .ok (.lushr, 1) := by decide +kernel
theorem d8_25 : decode jdk_29_method_30_code 25 = .ok (.lconst 0, 1) := by decide +kernel
theorem d8_26 : decode jdk_29_method_30_code 26 = .ok (.lcmp, 1) := by decide +kernel
theorem d8_27 : decode jdk_29_method_30_code 27 = .ok (.ifCond .eq 44, 3) := by decide +kernel
theorem d8_71 : decode jdk_29_method_30_code 71 = .ok (.lload 4, 2) := by decide +kernel
theorem d8_73 : decode jdk_29_method_30_code 73 = .ok (.lreturn, 1) := by decide +kernel
theorem pd_8_0 : parseMethodDescriptor "(J)J" = some ⟨[.long], some .long⟩ := by decide +kernel
theorem ef_8 (m : MethodId) (x0 : Int64) (x1 : Int64) : entryFrame m #[(.long x0), (.long x1)] 10 = mkF m 0 #[.val (.long x0), .second, .val (.long x1), .second, .unset, .unset, .unset, .unset, .unset, .unset] [] := by first | (simp [entryFrame, mkF, argsToLocals, Value.category]; done) | rfl
def f8 (q0 : Int64) (q1 : Int64) : Int64 :=
  (q0 * q1)
set_option maxRecDepth 65536 in
set_option maxHeartbeats 40000000 in
theorem rm8 (l : Launch) (Z : State) (az : Array Value) (hw : ∀ d ∈ tables_1, d.before az Z = true) (ws : List Jvm.Cond) (q0 : Int64) (q1 : Int64) (h0 : Heap) (n0 : Nat) (Z0 : n0 ≤ h0.size) (hM : (lcmpW ((((f9 q0) ||| (f9 q1)).toUInt64 >>> ((31 : Int32) &&& 0x3f).toInt64.toUInt64).toInt64) (0 : Int64)) = (0 : Int32)) :
    OCtr l Z (⟨"java/lang/Math", "multiplyExact", "(JJ)J"⟩ : MethodName) jdk_29_method_30_code 10 (some .long) ws ({ frames := 1, cells := 0, slots := 0, locals := 13 } : Room) #[(.long q0), (.long q1)] h0 (OPure (some (.long (f8 q0 q1))) h0 n0) := by
  refine OCtr.of (Jvm.Free.JP.mathPlain rfl (by decide +kernel)) ?_
  intro p e s m below meth c s₁ X0 hx hlk hZ hown0 hnm hby hml0 hret e0
  have hown : s.vm.findClass "java/lang/Math" = some m.cls := hown0
  have hml : c.maxLocals = 10 := hml0
  have N0 := Fr.nil n0
  refine OGo.step (fun t k => castTop (ef_8 m q0 q1) k) ?_
  refine OGo.step (F' := s₁.setTop (mkF m 6 #[.val (.long q0), .second, .val (.long q1), .second, .val (.long (q0 * q1)), .second, .unset, .unset, .unset, .unset] [(.long q0)])) (fun t kt => ?_) ?_
  · show Steps p.tables e below (s₁.setTop (mkF m 0 #[.val (.long q0), .second, .val (.long q1), .second, .unset, .unset, .unset, .unset, .unset, .unset] [])) t
    refine XS.lloadN X0.here hx rfl (hb hby d8_0) rfl ?_
    show Steps p.tables e below (s₁.setTop (mkF m 1 #[.val (.long q0), .second, .val (.long q1), .second, .unset, .unset, .unset, .unset, .unset, .unset] [(.long q0)])) t
    refine XS.lloadN X0.here hx rfl (hb hby d8_1) rfl ?_
    show Steps p.tables e below (s₁.setTop (mkF m 2 #[.val (.long q0), .second, .val (.long q1), .second, .unset, .unset, .unset, .unset, .unset, .unset] [(.long q1), (.long q0)])) t
    refine XS.lmul X0.here hx rfl (hb hby d8_2) rfl ?_
    show Steps p.tables e below (s₁.setTop (mkF m 3 #[.val (.long q0), .second, .val (.long q1), .second, .unset, .unset, .unset, .unset, .unset, .unset] [(.long (q0 * q1))])) t
    refine XS.lstore X0.here hx rfl (hb hby d8_3) rfl (l' := #[.val (.long q0), .second, .val (.long q1), .second, .val (.long (q0 * q1)), .second, .unset, .unset, .unset, .unset]) rfl ?_
    show Steps p.tables e below (s₁.setTop (mkF m 5 #[.val (.long q0), .second, .val (.long q1), .second, .val (.long (q0 * q1)), .second, .unset, .unset, .unset, .unset] [])) t
    refine XS.lloadN X0.here hx rfl (hb hby d8_5) rfl ?_
    exact kt
  refine OGo.callS X0 hx hZ (y := (⟨"java/lang/Math", "abs", "(J)J"⟩ : MethodName)) hown (own_wd hw 41 rfl) (own_wd hw 42 rfl) (own_wd hw 23 rfl) (own_wd hw 43 rfl) (by decide) (rm9 l Z az hw [] q0 h0 n0 Z0) (W := 0) (by decide) (by decide) (g := (mkF m 6 #[.val (.long q0), .second, .val (.long q1), .second, .val (.long (q0 * q1)), .second, .unset, .unset, .unset, .unset] [(.long q0)])) rfl (by rw [hml]; rfl) (argsL := [(.long q0)]) (rest := []) (lenOf pd_8_0 rfl) rfl (by show 2 * 0 + _ ≤ _; exact Nat.le_of_eq rfl) (hb hby d8_6) rfl e0 (by decide) (by decide) ?_
  rintro _ T1 L1 X1 ⟨rfl, Nq1, e1⟩
  have N1 := Fr.app N0 Nq1
  show OGo _ _ _ _ _ _ _ (T1.setTop (mkF m 9 #[.val (.long q0), .second, .val (.long q1), .second, .val (.long (q0 * q1)), .second, .unset, .unset, .unset, .unset] [(.long (f9 q0))]))
  refine OGo.step (F' := T1.setTop (mkF m 12 #[.val (.long q0), .second, .val (.long q1), .second, .val (.long (q0 * q1)), .second, .val (.long (f9 q0)), .second, .unset, .unset] [(.long q1)])) (fun t kt => ?_) ?_
  · show Steps p.tables e below (T1.setTop (mkF m 9 #[.val (.long q0), .second, .val (.long q1), .second, .val (.long (q0 * q1)), .second, .unset, .unset, .unset, .unset] [(.long (f9 q0))])) t
    refine XS.lstore X1.here hx rfl (hb hby d8_9) rfl (l' := #[.val (.long q0), .second, .val (.long q1), .second, .val (.long (q0 * q1)), .second, .val (.long (f9 q0)), .second, .unset, .unset]) rfl ?_
    show Steps p.tables e below (T1.setTop (mkF m 11 #[.val (.long q0), .second, .val (.long q1), .second, .val (.long (q0 * q1)), .second, .val (.long (f9 q0)), .second, .unset, .unset] [])) t
    refine XS.lloadN X1.here hx rfl (hb hby d8_11) rfl ?_
    exact kt
  refine OGo.callS X1 hx hZ (y := (⟨"java/lang/Math", "abs", "(J)J"⟩ : MethodName)) hown (own_wd hw 41 rfl) (own_wd hw 42 rfl) (own_wd hw 23 rfl) (own_wd hw 43 rfl) (by decide) (rm9 l Z az hw [] q1 h0 n0 Z0) (W := 0) (by decide) (by decide) (g := (mkF m 12 #[.val (.long q0), .second, .val (.long q1), .second, .val (.long (q0 * q1)), .second, .val (.long (f9 q0)), .second, .unset, .unset] [(.long q1)])) rfl (by rw [hml]; rfl) (argsL := [(.long q1)]) (rest := []) (lenOf pd_8_0 rfl) rfl (by show 2 * 0 + _ ≤ _; exact Nat.le_of_eq rfl) (hb hby d8_12) rfl e1 (by decide) (by decide) ?_
  rintro _ T2 L2 X2 ⟨rfl, Nq2, e2⟩
  have N2 := Fr.app N1 Nq2
  show OGo _ _ _ _ _ _ _ (T2.setTop (mkF m 15 #[.val (.long q0), .second, .val (.long q1), .second, .val (.long (q0 * q1)), .second, .val (.long (f9 q0)), .second, .unset, .unset] [(.long (f9 q1))]))
  refine OGo.step (F' := T2.setTop (mkF m 73 #[.val (.long q0), .second, .val (.long q1), .second, .val (.long (q0 * q1)), .second, .val (.long (f9 q0)), .second, .val (.long (f9 q1)), .second] [(.long (q0 * q1))])) (fun t kt => ?_) ?_
  · show Steps p.tables e below (T2.setTop (mkF m 15 #[.val (.long q0), .second, .val (.long q1), .second, .val (.long (q0 * q1)), .second, .val (.long (f9 q0)), .second, .unset, .unset] [(.long (f9 q1))])) t
    refine XS.lstore X2.here hx rfl (hb hby d8_15) rfl (l' := #[.val (.long q0), .second, .val (.long q1), .second, .val (.long (q0 * q1)), .second, .val (.long (f9 q0)), .second, .val (.long (f9 q1)), .second]) rfl ?_
    show Steps p.tables e below (T2.setTop (mkF m 17 #[.val (.long q0), .second, .val (.long q1), .second, .val (.long (q0 * q1)), .second, .val (.long (f9 q0)), .second, .val (.long (f9 q1)), .second] [])) t
    refine XS.lload X2.here hx rfl (hb hby d8_17) rfl ?_
    show Steps p.tables e below (T2.setTop (mkF m 19 #[.val (.long q0), .second, .val (.long q1), .second, .val (.long (q0 * q1)), .second, .val (.long (f9 q0)), .second, .val (.long (f9 q1)), .second] [(.long (f9 q0))])) t
    refine XS.lload X2.here hx rfl (hb hby d8_19) rfl ?_
    show Steps p.tables e below (T2.setTop (mkF m 21 #[.val (.long q0), .second, .val (.long q1), .second, .val (.long (q0 * q1)), .second, .val (.long (f9 q0)), .second, .val (.long (f9 q1)), .second] [(.long (f9 q1)), (.long (f9 q0))])) t
    refine XS.lor X2.here hx rfl (hb hby d8_21) rfl ?_
    show Steps p.tables e below (T2.setTop (mkF m 22 #[.val (.long q0), .second, .val (.long q1), .second, .val (.long (q0 * q1)), .second, .val (.long (f9 q0)), .second, .val (.long (f9 q1)), .second] [(.long ((f9 q0) ||| (f9 q1)))])) t
    refine XS.bipush X2.here hx rfl (hb hby d8_22) ?_
    show Steps p.tables e below (T2.setTop (mkF m 24 #[.val (.long q0), .second, .val (.long q1), .second, .val (.long (q0 * q1)), .second, .val (.long (f9 q0)), .second, .val (.long (f9 q1)), .second] [(.int (31 : Int32)), (.long ((f9 q0) ||| (f9 q1)))])) t
    refine XS.lushr X2.here hx rfl (hb hby d8_24) rfl ?_
    show Steps p.tables e below (T2.setTop (mkF m 25 #[.val (.long q0), .second, .val (.long q1), .second, .val (.long (q0 * q1)), .second, .val (.long (f9 q0)), .second, .val (.long (f9 q1)), .second] [(.long ((((f9 q0) ||| (f9 q1)).toUInt64 >>> ((31 : Int32) &&& 0x3f).toInt64.toUInt64).toInt64))])) t
    refine XS.lconst X2.here hx rfl (hb hby d8_25) ?_
    show Steps p.tables e below (T2.setTop (mkF m 26 #[.val (.long q0), .second, .val (.long q1), .second, .val (.long (q0 * q1)), .second, .val (.long (f9 q0)), .second, .val (.long (f9 q1)), .second] [(.long (0 : Int64)), (.long ((((f9 q0) ||| (f9 q1)).toUInt64 >>> ((31 : Int32) &&& 0x3f).toInt64.toUInt64).toInt64))])) t
    refine XS.lcmp X2.here hx rfl (hb hby d8_26) rfl ?_
    show Steps p.tables e below (T2.setTop (mkF m 27 #[.val (.long q0), .second, .val (.long q1), .second, .val (.long (q0 * q1)), .second, .val (.long (f9 q0)), .second, .val (.long (f9 q1)), .second] [(.int (lcmpW ((((f9 q0) ||| (f9 q1)).toUInt64 >>> ((31 : Int32) &&& 0x3f).toInt64.toUInt64).toInt64) (0 : Int64)))])) t
    refine XS.ifYes X2.here hx rfl (pc0 := 27) (pc' := 71) rfl (hb hby d8_27) rfl ((if0 _ _).trans (teq hM).1) (by decide) (by decide) ?_
    show Steps p.tables e below (T2.setTop (mkF m 71 #[.val (.long q0), .second, .val (.long q1), .second, .val (.long (q0 * q1)), .second, .val (.long (f9 q0)), .second, .val (.long (f9 q1)), .second] [])) t
    refine XS.lload X2.here hx rfl (hb hby d8_71) rfl ?_
    exact kt
  refine OGo.retJ X2 hx hlk hret (hb hby d8_73) ?_ (by decide) (by decide)
  exact ⟨(by rw [f8]), N2, e2⟩
/-- what a sample of at most k shorts holds -/
def own_ok (k : Nat) (sz sm sq : Int64) : Prop := 0 ≤ sz.toInt ∧ sz.toInt ≤ k ∧ -(32768 * (k : Int)) ≤ sm.toInt ∧ sm.toInt ≤ 32768 * k ∧ 0 ≤ sq.toInt ∧ sq.toInt ≤ 1073741824 * k
def own_sh (q : Int64) : Prop := -32768 ≤ q.toInt ∧ q.toInt ≤ 32767
theorem own_lt (x : Int64) : ¬ (lcmpW x (0 : Int64) < (0 : Int32)) ↔ 0 ≤ x.toInt := by
  rw [lw_lt, Int64.lt_iff_toInt_lt]; simp only [Int64.reduceToInt]; omega
theorem own_addok (x y : Int64) (h : Jvm.Free.XT.fits64 (x.toInt + y.toInt)) : ¬ ((lcmpW ((x ^^^ (x + y)) &&& (y ^^^ (x + y))) (0 : Int64)) < (0 : Int32)) := by
  rw [lw_lt]; exact Jvm.Free.XT.addOk64 h
theorem own_incok (x : Int64) (h : x.toInt < 1000) : ¬ ((lcmpW x (9223372036854775807 : Int64)) = (0 : Int32)) := by
  rw [lw_eq]; intro e; subst e; revert h; decide
theorem own_shsq (q : Int64) (h : own_sh q) : (q * q).toInt = q.toInt * q.toInt ∧ 0 ≤ q.toInt * q.toInt ∧ q.toInt * q.toInt ≤ 1073741824 := by
  obtain ⟨h1, h2⟩ := h
  have a1 : 0 ≤ q.toInt * q.toInt := by
    rcases Int.le_total 0 q.toInt with z | z
    · exact Int.mul_nonneg z z
    · exact Int.mul_nonneg_of_nonpos_of_nonpos z z
  have a2 : q.toInt * q.toInt ≤ 1073741824 := by
    have := (mc h1 h2 h1 h2).2.2.1; omega
  exact ⟨Jvm.Free.XT.mul64 ⟨by omega, by omega⟩, a1, a2⟩
theorem own_abs (q : Int64) (h : own_sh q) : 0 ≤ (f9 q).toInt ∧ (f9 q).toInt ≤ 32768 := by
  obtain ⟨h1, h2⟩ := h
  unfold f9
  have c := c_lneg q
  have r1 := (-q).toInt_lt; have r2 := (-q).le_toInt
  split
  · rename_i z; rw [lw_lt, Int64.lt_iff_toInt_lt] at z; simp only [Int64.reduceToInt] at z; omega
  · rename_i z; rw [own_lt] at z; omega
theorem own_mulok (q : Int64) (h : own_sh q) : (lcmpW ((((f9 q) ||| (f9 q)).toUInt64 >>> ((31 : Int32) &&& 0x3f).toInt64.toUInt64).toInt64) (0 : Int64)) = (0 : Int32) := by
  rw [lw_eq, Int64.or_self]
  obtain ⟨h1, h2⟩ := own_abs q h
  generalize f9 q = y at *
  have e := c_lushr y (31 : Int32) 31 rfl (by decide)
  rw [← Int64.toInt_inj, e]; simp only [Int64.reduceToInt]; omega
theorem own_step (k : Nat) (sz sm sq q : Int64) (h : own_ok k sz sm sq) (hq : own_sh q) (hk : k ≤ 16) : own_ok (k + 1) (f7 sz) (f5 sm q) (f5 sq (f8 q q)) := by
  obtain ⟨a1, a2, a3, a4, a5, a6⟩ := h
  obtain ⟨b1, b2, b3⟩ := own_shsq q hq
  obtain ⟨d1, d2⟩ := hq
  have k1 : (k : Int) ≤ 16 := by omega
  have e1 : (sz + 1).toInt = sz.toInt + 1 := Jvm.Free.XT.add64 (y := 1) ⟨by have : (1 : Int64).toInt = 1 := rfl; omega, by have : (1 : Int64).toInt = 1 := rfl; omega⟩
  have e2 : (sm + q).toInt = sm.toInt + q.toInt := Jvm.Free.XT.add64 ⟨by omega, by omega⟩
  have e3 : (sq + q * q).toInt = sq.toInt + q.toInt * q.toInt := by rw [Jvm.Free.XT.add64 ⟨by rw [b1]; omega, by rw [b1]; omega⟩, b1]
  simp only [own_ok, f7, f5, f8, e1, e2, e3]
  push_cast
  refine ⟨by omega, by omega, by omega, by omega, by omega, by omega⟩
theorem own_join (j k : Nat) (sz sm sq sz' sm' sq' : Int64) (h : own_ok j sz sm sq) (h' : own_ok k sz' sm' sq') (hj : j ≤ 16) (hk : k ≤ 16) : Jvm.Free.XT.fits64 (sz.toInt + sz'.toInt) ∧ Jvm.Free.XT.fits64 (sm.toInt + sm'.toInt) ∧ Jvm.Free.XT.fits64 (sq.toInt + sq'.toInt) := by
  obtain ⟨a1, a2, a3, a4, a5, a6⟩ := h
  obtain ⟨b1, b2, b3, b4, b5, b6⟩ := h'
  have k1 : (k : Int) ≤ 16 := by omega
  have k2 : (j : Int) ≤ 16 := by omega
  refine ⟨⟨by omega, by omega⟩, ⟨by omega, by omega⟩, by omega, by omega⟩
theorem own_sh16 (x : Int32) : own_sh (x.toInt16.toInt32.toInt64) := by
  have h1 : (x.toInt16.toInt32.toInt64).toInt = x.toInt16.toInt := by rw [Int32.toInt_toInt64, Int16.toInt_toInt32]
  have h2 := x.toInt16.toInt_lt; have h3 := x.toInt16.le_toInt
  exact ⟨by omega, by omega⟩
/-! body 1: com/example/oddhands/oddhands/simulator/Sample.<init>:()V -/
theorem d1_0 : decode prog_8_method_1_code 0 = .ok (.aload_n 0, 1) := by decide +kernel
theorem d1_1 : decode prog_8_method_1_code 1 = .ok (.invokespecial 1, 3) := by decide +kernel
theorem d1_4 : decode prog_8_method_1_code 4 = .ok (.return_, 1) := by decide +kernel
theorem pn_1 : plainName "com/example/oddhands/oddhands/simulator/Sample" = true := by first | (simp [plainName, overriddenIn]; done) | decide +kernel
theorem ef_1 (m : MethodId) (x0 : Addr) : entryFrame m #[(.ref x0)] 1 = mkF m 0 #[.val (.ref x0)] [] := by first | (simp [entryFrame, mkF, argsToLocals, Value.category]; done) | rfl
set_option maxRecDepth 65536 in
set_option maxHeartbeats 40000000 in
theorem rm1 (l : Launch) (Z : State) (az : Array Value) (hw : ∀ d ∈ tables_1, d.before az Z = true) (ws : List Jvm.Cond) (a0 : Addr) (h0 : Heap) (n0 : Nat) (Z0 : n0 ≤ h0.size) :
    OCtr l Z (⟨"com/example/oddhands/oddhands/simulator/Sample", "<init>", "()V"⟩ : MethodName) prog_8_method_1_code 1 none ws ({ frames := 1, cells := 0, slots := 0, locals := 12 } : Room) #[(.ref a0)] h0 (OPure none h0 n0) := by
  refine OCtr.of (plainFor_of_name pn_1) ?_
  intro p e s m below meth c s₁ X0 hx hlk hZ hown0 hnm hby hml0 hret e0
  have hown : s.vm.findClass "com/example/oddhands/oddhands/simulator/Sample" = some m.cls := hown0
  have hml : c.maxLocals = 1 := hml0
  have N0 := Fr.nil n0
  refine OGo.step (fun t k => castTop (ef_1 m a0) k) ?_
  refine OGo.step (F' := s₁.setTop (mkF m 1 #[.val (.ref a0)] [(.ref a0)])) (fun t kt => ?_) ?_
  · show Steps p.tables e below (s₁.setTop (mkF m 0 #[.val (.ref a0)] [])) t
    refine XS.aloadN X0.here hx rfl (hb hby d1_0) rfl rfl ?_
    exact kt
  obtain ⟨T1, X1, e1, st1⟩ := initO X0 hx hZ hown (own_wd hw 6 rfl) (own_wd hw 7 rfl) (own_wd hw 8 rfl) e0 (g := (mkF m 1 #[.val (.ref a0)] [(.ref a0)])) rfl (by rw [hml]; rfl) rfl (hb hby d1_1) (by decide) (W := 0) (by show 2 * 0 + _ ≤ _; exact Nat.le_of_eq rfl) (by decide)
  refine OGo.step st1 ?_
  show OGo _ _ _ _ _ _ _ (T1.setTop (mkF m 4 #[.val (.ref a0)] []))
  refine OGo.retV X1 hx hlk hret (hb hby d1_4) ?_ (by decide) (by decide)
  exact ⟨rfl, N0, e1⟩
/-! body 3: com/example/oddhands/oddhands/simulator/Sample.isEmpty:()Z -/
theorem d3_0 : decode prog_8_method_4_code 0 = .ok (.aload_n 0, 1) := by decide +kernel
theorem d3_1 : decode prog_8_method_4_code 1 = .ok (.getfield 7, 3) := by decide +kernel
theorem d3_4 : decode prog_8_method_4_code 4 = .ok (.lconst 0, 1) := by decide +kernel
theorem d3_5 : decode prog_8_method_4_code 5 = .ok (.lcmp, 1) := by decide +kernel
theorem d3_6 : decode prog_8_method_4_code 6 = .ok (.ifCond .ne 7, 3) := by decide +kernel
theorem d3_9 : decode prog_8_method_4_code 9 = .ok (.iconst 1, 1) := by decide +kernel
theorem d3_10 : decode prog_8_method_4_code 10 = .ok (.goto 4, 3) := by decide +kernel
theorem d3_13 : decode prog_8_method_4_code 13 = .ok (.iconst 0, 1) := by decide +kernel
theorem d3_14 : decode prog_8_method_4_code 14 = .ok (.ireturn, 1) := by decide +kernel
theorem pn_3 : plainName "com/example/oddhands/oddhands/simulator/Sample" = true := by first | (simp [plainName, overriddenIn]; done) | decide +kernel
theorem ef_3 (m : MethodId) (x0 : Addr) : entryFrame m #[(.ref x0)] 1 = mkF m 0 #[.val (.ref x0)] [] := by first | (simp [entryFrame, mkF, argsToLocals, Value.category]; done) | rfl
def f3 (w_size_a0 : Int64) : Int32 :=
  if (lcmpW w_size_a0 (0 : Int64)) = (0 : Int32) then (1 : Int32)
  else (0 : Int32)
theorem fb3 (w_size_a0 : Int64) : nar .boolean (f3 w_size_a0) = (f3 w_size_a0) := by
  unfold f3
  repeat' split
  all_goals first | rfl | decide
set_option maxRecDepth 65536 in
set_option maxHeartbeats 40000000 in
theorem rm3 (l : Launch) (Z : State) (az : Array Value) (hw : ∀ d ∈ tables_1, d.before az Z = true) (ws : List Jvm.Cond) (a0 : Addr) (w_size_a0 : Int64) (h0 : Heap) (n0 : Nat) (Z0 : n0 ≤ h0.size) (F_size_a0 : Fld Z h0 a0 "com/example/oddhands/oddhands/simulator/Sample" "size" "J" (.long w_size_a0)) :
    OCtr l Z (⟨"com/example/oddhands/oddhands/simulator/Sample", "isEmpty", "()Z"⟩ : MethodName) prog_8_method_4_code 1 (some .boolean) ws ({ frames := 0, cells := 0, slots := 0, locals := 0 } : Room) #[(.ref a0)] h0 (OPure (some (.int (f3 w_size_a0))) h0 n0) := by
  refine OCtr.of (plainFor_of_name pn_3) ?_
  intro p e s m below meth c s₁ X0 hx hlk hZ hown0 hnm hby hml0 hret e0
  have hown : s.vm.findClass "com/example/oddhands/oddhands/simulator/Sample" = some m.cls := hown0
  have hml : c.maxLocals = 1 := hml0
  have N0 := Fr.nil n0
  refine OGo.step (fun t k => castTop (ef_3 m a0) k) ?_
  refine OGo.step (F' := s₁.setTop (mkF m 1 #[.val (.ref a0)] [(.ref a0)])) (fun t kt => ?_) ?_
  · show Steps p.tables e below (s₁.setTop (mkF m 0 #[.val (.ref a0)] [])) t
    refine XS.aloadN X0.here hx rfl (hb hby d3_0) rfl rfl ?_
    exact kt
  obtain ⟨T1, X1, e1, st1⟩ := getF X0 hx hZ hown (host := "") (Or.inl (own_wd hw 14 rfl)) Via.refl e0 F_size_a0 (g := (mkF m 1 #[.val (.ref a0)] [(.ref a0)])) rfl rfl (hb hby d3_1)
  refine OGo.step st1 ?_
  show OGo _ _ _ _ _ _ _ (T1.setTop (mkF m 4 #[.val (.ref a0)] [(.long w_size_a0)]))
  refine OGo.step (F' := T1.setTop (mkF m 6 #[.val (.ref a0)] [(.int (lcmpW w_size_a0 (0 : Int64)))])) (fun t kt => ?_) ?_
  · show Steps p.tables e below (T1.setTop (mkF m 4 #[.val (.ref a0)] [(.long w_size_a0)])) t
    refine XS.lconst X1.here hx rfl (hb hby d3_4) ?_
    show Steps p.tables e below (T1.setTop (mkF m 5 #[.val (.ref a0)] [(.long (0 : Int64)), (.long w_size_a0)])) t
    refine XS.lcmp X1.here hx rfl (hb hby d3_5) rfl ?_
    exact kt
  by_cases hc6 : (lcmpW w_size_a0 (0 : Int64)) = (0 : Int32)
  · refine OGo.step (F' := T1.setTop (mkF m 9 #[.val (.ref a0)] [])) (fun t kt => ?_) ?_
    · show Steps p.tables e below (T1.setTop (mkF m 6 #[.val (.ref a0)] [(.int (lcmpW w_size_a0 (0 : Int64)))])) t
      refine XS.ifNo X1.here hx rfl (hb hby d3_6) rfl ((if0 _ _).trans (teq hc6).2) ?_
      exact kt
    refine OGo.step (F' := T1.setTop (mkF m 14 #[.val (.ref a0)] [(.int (1 : Int32))])) (fun t kt => ?_) ?_
    · show Steps p.tables e below (T1.setTop (mkF m 9 #[.val (.ref a0)] [])) t
      refine XS.iconst X1.here hx rfl (hb hby d3_9) ?_
      show Steps p.tables e below (T1.setTop (mkF m 10 #[.val (.ref a0)] [(.int (1 : Int32))])) t
      refine XS.goto X1.here hx rfl (pc0 := 10) (pc' := 14) rfl (hb hby d3_10) (by decide) (by decide) ?_
      exact kt
    refine OGo.retZ X1 hx hlk (t := .boolean) (z' := (1 : Int32)) hret (by simp) (hb hby d3_14) rfl ?_ (by decide) (by decide)
    exact ⟨(by rw [f3, if_pos hc6]), N0, e1⟩
  · refine OGo.step (F' := T1.setTop (mkF m 13 #[.val (.ref a0)] [])) (fun t kt => ?_) ?_
    · show Steps p.tables e below (T1.setTop (mkF m 6 #[.val (.ref a0)] [(.int (lcmpW w_size_a0 (0 : Int64)))])) t
      refine XS.ifYes X1.here hx rfl (pc0 := 6) (pc' := 13) rfl (hb hby d3_6) rfl ((if0 _ _).trans (feq hc6).2) (by decide) (by decide) ?_
      exact kt
    refine OGo.step (F' := T1.setTop (mkF m 14 #[.val (.ref a0)] [(.int (0 : Int32))])) (fun t kt => ?_) ?_
    · show Steps p.tables e below (T1.setTop (mkF m 13 #[.val (.ref a0)] [])) t
      refine XS.iconst X1.here hx rfl (hb hby d3_13) ?_
      exact kt
    refine OGo.retZ X1 hx hlk (t := .boolean) (z' := (0 : Int32)) hret (by simp) (hb hby d3_14) rfl ?_ (by decide) (by decide)
    exact ⟨(by rw [f3, if_neg hc6]), N0, e1⟩
/-! body 6: com/example/oddhands/oddhands/simulator/Sample.add:(J)V -/
theorem d6_0 : decode prog_8_method_2_code 0 = .ok (.aload_n 0, 1) := by decide +kernel
theorem d6_1 : decode prog_8_method_2_code 1 = .ok (.aload_n 0, 1) := by decide +kernel
theorem d6_2 : decode prog_8_method_2_code 2 = .ok (.getfield 7, 3) := by decide +kernel
theorem d6_5 : decode prog_8_method_2_code 5 = .ok (.invokestatic 13, 3) := by decide +kernel
theorem d6_8 : decode prog_8_method_2_code 8 = .ok (.putfield 7, 3) := by decide +kernel
theorem d6_11 : decode prog_8_method_2_code 11 = .ok (.aload_n 0, 1) := by decide +kernel
theorem d6_12 : decode prog_8_method_2_code 12 = .ok (.aload_n 0, 1) := by decide +kernel
theorem d6_13 : decode prog_8_method_2_code 13 = .ok (.getfield 19, 3) := by decide +kernel
theorem d6_16 : decode prog_8_method_2_code 16 = .ok (.lload_n 1, 1) := by decide +kernel
theorem d6_17 : decode prog_8_method_2_code 17 = .ok (.invokestatic 22, 3) := by decide +kernel
theorem d6_20 : decode prog_8_method_2_code 20 = .ok (.putfield 19, 3) := by decide +kernel
theorem d6_23 : decode prog_8_method_2_code 23 = .ok (.aload_n 0, 1) := by decide +kernel
theorem d6_24 : decode prog_8_method_2_code 24 = .ok (.aload_n 0, 1) := by decide +kernel
theorem d6_25 : decode prog_8_method_2_code 25 = .ok (.getfield 26, 3) := by decide +kernel
theorem d6_28 : decode prog_8_method_2_code 28 = .ok (.lload_n 1, 1) := by decide +kernel
theorem d6_29 : decode prog_8_method_2_code 29 = .ok (.lload_n 1, 1) := by decide +kernel
theorem d6_30 : decode prog_8_method_2_code 30 = .ok (.invokestatic 29, 3) := by decide +kernel
theorem d6_33 : decode prog_8_method_2_code 33 = .ok (.invokestatic 22, 3) := by decide +kernel
theorem d6_36 : decode prog_8_method_2_code 36 = .ok (.putfield 26, 3) := by decide +kernel
theorem d6_39 : decode prog_8_method_2_code 39 = .ok (.return_, 1) := by decide +kernel
theorem pn_6 : plainName "com/example/oddhands/oddhands/simulator/Sample" = true := by first | (simp [plainName, overriddenIn]; done) | decide +kernel
theorem pd_6_0 : parseMethodDescriptor "(J)J" = some ⟨[.long], some .long⟩ := by decide +kernel
theorem pd_6_1 : parseMethodDescriptor "(JJ)J" = some ⟨[.long, .long], some .long⟩ := by decide +kernel
theorem ef_6 (m : MethodId) (x0 : Addr) (x1 : Int64) : entryFrame m #[(.ref x0), (.long x1)] 3 = mkF m 0 #[.val (.ref x0), .val (.long x1), .second] [] := by first | (simp [entryFrame, mkF, argsToLocals, Value.category]; done) | rfl
def Q6 (Z : State) (a0 : Addr) (q1 : Int64) (w_size_a0 : Int64) (w_sum_a0 : Int64) (w_sumOfSquares_a0 : Int64) (kk : Nat) (h0 : Heap) (n0 : Nat) (v : Option Value) (h : Heap) (L : List Loc) : Prop := v = none ∧ Fr n0 L ∧ Keep h0 h [a0] ∧ Exa Z h a0 "com/example/oddhands/oddhands/simulator/Sample" ∧ Fld Z h a0 "com/example/oddhands/oddhands/simulator/Sample" "size" "J" (.long (f7 w_size_a0)) ∧ Fld Z h a0 "com/example/oddhands/oddhands/simulator/Sample" "sum" "J" (.long (f5 w_sum_a0 q1)) ∧ Fld Z h a0 "com/example/oddhands/oddhands/simulator/Sample" "sumOfSquares" "J" (.long (f5 w_sumOfSquares_a0 (f8 q1 q1)))
set_option maxRecDepth 65536 in
set_option maxHeartbeats 40000000 in
theorem rm6 (l : Launch) (Z : State) (az : Array Value) (hw : ∀ d ∈ tables_1, d.before az Z = true) (ws : List Jvm.Cond) (a0 : Addr) (q1 : Int64) (w_size_a0 : Int64) (w_sum_a0 : Int64) (w_sumOfSquares_a0 : Int64) (kk : Nat) (h0 : Heap) (n0 : Nat) (Z0 : n0 ≤ h0.size) (F_size_a0 : Fld Z h0 a0 "com/example/oddhands/oddhands/simulator/Sample" "size" "J" (.long w_size_a0)) (F_sum_a0 : Fld Z h0 a0 "com/example/oddhands/oddhands/simulator/Sample" "sum" "J" (.long w_sum_a0)) (F_sq_a0 : Fld Z h0 a0 "com/example/oddhands/oddhands/simulator/Sample" "sumOfSquares" "J" (.long w_sumOfSquares_a0)) (hok : own_ok kk w_size_a0 w_sum_a0 w_sumOfSquares_a0) (hk : kk ≤ 16) (hq : own_sh q1) (E_a0 : Exa Z h0 a0 "com/example/oddhands/oddhands/simulator/Sample") (gn_a0 : n0 ≤ a0) :
    OCtr l Z (⟨"com/example/oddhands/oddhands/simulator/Sample", "add", "(J)V"⟩ : MethodName) prog_8_method_2_code 3 none ws ({ frames := 2, cells := 0, slots := 0, locals := 37 } : Room) #[(.ref a0), (.long q1)] h0 (Q6 Z a0 q1 w_size_a0 w_sum_a0 w_sumOfSquares_a0 kk h0 n0) := by
  refine OCtr.of (plainFor_of_name pn_6) ?_
  intro p e s m below meth c s₁ X0 hx hlk hZ hown0 hnm hby hml0 hret e0
  have hown : s.vm.findClass "com/example/oddhands/oddhands/simulator/Sample" = some m.cls := hown0
  have hml : c.maxLocals = 3 := hml0
  have N0 := Fr.nil n0
  refine OGo.step (fun t k => castTop (ef_6 m a0 q1) k) ?_
  refine OGo.step (F' := s₁.setTop (mkF m 2 #[.val (.ref a0), .val (.long q1), .second] [(.ref a0), (.ref a0)])) (fun t kt => ?_) ?_
  · show Steps p.tables e below (s₁.setTop (mkF m 0 #[.val (.ref a0), .val (.long q1), .second] [])) t
    refine XS.aloadN X0.here hx rfl (hb hby d6_0) rfl rfl ?_
    show Steps p.tables e below (s₁.setTop (mkF m 1 #[.val (.ref a0), .val (.long q1), .second] [(.ref a0)])) t
    refine XS.aloadN X0.here hx rfl (hb hby d6_1) rfl rfl ?_
    exact kt
  obtain ⟨T1, X1, e1, st1⟩ := getF X0 hx hZ hown (host := "") (Or.inl (own_wd hw 14 rfl)) Via.refl e0 F_size_a0 (g := (mkF m 2 #[.val (.ref a0), .val (.long q1), .second] [(.ref a0), (.ref a0)])) rfl rfl (hb hby d6_2)
  refine OGo.step st1 ?_
  show OGo _ _ _ _ _ _ _ (T1.setTop (mkF m 5 #[.val (.ref a0), .val (.long q1), .second] [(.long w_size_a0), (.ref a0)]))
  refine OGo.callS X1 hx hZ (y := (⟨"java/lang/Math", "incrementExact", "(J)J"⟩ : MethodName)) hown (own_wd hw 34 rfl) (own_wd hw 35 rfl) (own_wd hw 23 rfl) (own_wd hw 36 rfl) (by decide) (rm7 l Z az hw [] w_size_a0 h0 n0 Z0 (own_incok _ (by have := hok.2.1; omega))) (W := 1) (by decide) (by decide) (g := (mkF m 5 #[.val (.ref a0), .val (.long q1), .second] [(.long w_size_a0), (.ref a0)])) rfl (by rw [hml]; rfl) (argsL := [(.long w_size_a0)]) (rest := [(.ref a0)]) (lenOf pd_6_0 rfl) rfl (by show 2 * 0 + _ ≤ _; exact Nat.le_of_eq rfl) (hb hby d6_5) rfl e1 (by decide) (by decide) ?_
  rintro _ T2 L2 X2 ⟨rfl, Nq2, e2⟩
  have N2 := Fr.app N0 Nq2
  show OGo _ _ _ _ _ _ _ (T2.setTop (mkF m 8 #[.val (.ref a0), .val (.long q1), .second] [(.long (f7 w_size_a0)), (.ref a0)]))
  obtain ⟨T3, h3, X3, e3, W3, st3⟩ := putF X2 hx hZ hown (host := "") (Or.inl (own_wd hw 14 rfl)) Via.refl e2 F_size_a0 E_a0 (Or.inl (own_wd hw 15 rfl)) (own_wd hw 1 rfl) (ty := .long) (by decide) rfl rfl (g := (mkF m 8 #[.val (.ref a0), .val (.long q1), .second] [(.long (f7 w_size_a0)), (.ref a0)])) rfl rfl (hb hby d6_8)
  have Fw3 : Fld Z h3 a0 "com/example/oddhands/oddhands/simulator/Sample" "size" "J" (.long (f7 w_size_a0)) := F_size_a0.same W3
  have KC3 : Keep h0 h3 [a0] := (Keep.refl h0 [a0]).wr W3 (Or.inl (List.mem_of_getElem? (i := 0) rfl))
  have N3 := Fr.snoc X3 N2 gn_a0
  refine OGo.step st3 ?_
  show OGo _ _ _ _ _ _ _ (T3.setTop (mkF m 11 #[.val (.ref a0), .val (.long q1), .second] []))
  refine OGo.step (F' := T3.setTop (mkF m 13 #[.val (.ref a0), .val (.long q1), .second] [(.ref a0), (.ref a0)])) (fun t kt => ?_) ?_
  · show Steps p.tables e below (T3.setTop (mkF m 11 #[.val (.ref a0), .val (.long q1), .second] [])) t
    refine XS.aloadN X3.here hx rfl (hb hby d6_11) rfl rfl ?_
    show Steps p.tables e below (T3.setTop (mkF m 12 #[.val (.ref a0), .val (.long q1), .second] [(.ref a0)])) t
    refine XS.aloadN X3.here hx rfl (hb hby d6_12) rfl rfl ?_
    exact kt
  obtain ⟨T4, X4, e4, st4⟩ := getF X3 hx hZ hown (host := "") (Or.inl (own_wd hw 25 rfl)) Via.refl e3 (F_sum_a0.other W3 (Or.inr (slot_ne (a0 := az) (Or.inl (own_wd hw 26 rfl)) (Or.inl (own_wd hw 15 rfl)) (by decide) (t := .long) (t' := .long) (by decide) (by decide)))) (g := (mkF m 13 #[.val (.ref a0), .val (.long q1), .second] [(.ref a0), (.ref a0)])) rfl rfl (hb hby d6_13)
  refine OGo.step st4 ?_
  show OGo _ _ _ _ _ _ _ (T4.setTop (mkF m 16 #[.val (.ref a0), .val (.long q1), .second] [(.long w_sum_a0), (.ref a0)]))
  refine OGo.step (F' := T4.setTop (mkF m 17 #[.val (.ref a0), .val (.long q1), .second] [(.long q1), (.long w_sum_a0), (.ref a0)])) (fun t kt => ?_) ?_
  · show Steps p.tables e below (T4.setTop (mkF m 16 #[.val (.ref a0), .val (.long q1), .second] [(.long w_sum_a0), (.ref a0)])) t
    refine XS.lloadN X4.here hx rfl (hb hby d6_16) rfl ?_
    exact kt
  refine OGo.callS X4 hx hZ (y := (⟨"java/lang/Math", "addExact", "(JJ)J"⟩ : MethodName)) hown (own_wd hw 21 rfl) (own_wd hw 22 rfl) (own_wd hw 23 rfl) (own_wd hw 24 rfl) (by decide) (rm5 l Z az hw [] w_sum_a0 q1 h3 n0 (Nat.le_trans Z0 KC3.1) (own_addok _ _ (by have := hok.2.2.1; have := hok.2.2.2.1; have := hq.1; have := hq.2; exact ⟨by omega, by omega⟩))) (W := 1) (by decide) (by decide) (g := (mkF m 17 #[.val (.ref a0), .val (.long q1), .second] [(.long q1), (.long w_sum_a0), (.ref a0)])) rfl (by rw [hml]; rfl) (argsL := [(.long w_sum_a0), (.long q1)]) (rest := [(.ref a0)]) (lenOf pd_6_1 rfl) rfl (by show 2 * 0 + _ ≤ _; exact Nat.le_of_eq rfl) (hb hby d6_17) rfl e4 (by decide) (by decide) ?_
  rintro _ T5 L5 X5 ⟨rfl, Nq5, e5⟩
  have N5 := Fr.app N3 Nq5
  show OGo _ _ _ _ _ _ _ (T5.setTop (mkF m 20 #[.val (.ref a0), .val (.long q1), .second] [(.long (f5 w_sum_a0 q1)), (.ref a0)]))
  obtain ⟨T6, h6, X6, e6, W6, st6⟩ := putF X5 hx hZ hown (host := "") (Or.inl (own_wd hw 25 rfl)) Via.refl e5 (F_sum_a0.other W3 (Or.inr (slot_ne (a0 := az) (Or.inl (own_wd hw 26 rfl)) (Or.inl (own_wd hw 15 rfl)) (by decide) (t := .long) (t' := .long) (by decide) (by decide)))) (E_a0.wr W3) (Or.inl (own_wd hw 26 rfl)) (own_wd hw 1 rfl) (ty := .long) (by decide) rfl rfl (g := (mkF m 20 #[.val (.ref a0), .val (.long q1), .second] [(.long (f5 w_sum_a0 q1)), (.ref a0)])) rfl rfl (hb hby d6_20)
  have Fw6 : Fld Z h6 a0 "com/example/oddhands/oddhands/simulator/Sample" "sum" "J" (.long (f5 w_sum_a0 q1)) := (F_sum_a0.other W3 (Or.inr (slot_ne (a0 := az) (Or.inl (own_wd hw 26 rfl)) (Or.inl (own_wd hw 15 rfl)) (by decide) (t := .long) (t' := .long) (by decide) (by decide)))).same W6
  have KC6 : Keep h0 h6 [a0] := KC3.wr W6 (Or.inl (List.mem_of_getElem? (i := 0) rfl))
  have N6 := Fr.snoc X6 N5 gn_a0
  refine OGo.step st6 ?_
  show OGo _ _ _ _ _ _ _ (T6.setTop (mkF m 23 #[.val (.ref a0), .val (.long q1), .second] []))
  refine OGo.step (F' := T6.setTop (mkF m 25 #[.val (.ref a0), .val (.long q1), .second] [(.ref a0), (.ref a0)])) (fun t kt => ?_) ?_
  · show Steps p.tables e below (T6.setTop (mkF m 23 #[.val (.ref a0), .val (.long q1), .second] [])) t
    refine XS.aloadN X6.here hx rfl (hb hby d6_23) rfl rfl ?_
    show Steps p.tables e below (T6.setTop (mkF m 24 #[.val (.ref a0), .val (.long q1), .second] [(.ref a0)])) t
    refine XS.aloadN X6.here hx rfl (hb hby d6_24) rfl rfl ?_
    exact kt
  obtain ⟨T7, X7, e7, st7⟩ := getF X6 hx hZ hown (host := "") (Or.inl (own_wd hw 27 rfl)) Via.refl e6 ((F_sq_a0.other W3 (Or.inr (slot_ne (a0 := az) (Or.inl (own_wd hw 28 rfl)) (Or.inl (own_wd hw 15 rfl)) (by decide) (t := .long) (t' := .long) (by decide) (by decide)))).other W6 (Or.inr (slot_ne (a0 := az) (Or.inl (own_wd hw 28 rfl)) (Or.inl (own_wd hw 26 rfl)) (by decide) (t := .long) (t' := .long) (by decide) (by decide)))) (g := (mkF m 25 #[.val (.ref a0), .val (.long q1), .second] [(.ref a0), (.ref a0)])) rfl rfl (hb hby d6_25)
  refine OGo.step st7 ?_
  show OGo _ _ _ _ _ _ _ (T7.setTop (mkF m 28 #[.val (.ref a0), .val (.long q1), .second] [(.long w_sumOfSquares_a0), (.ref a0)]))
  refine OGo.step (F' := T7.setTop (mkF m 30 #[.val (.ref a0), .val (.long q1), .second] [(.long q1), (.long q1), (.long w_sumOfSquares_a0), (.ref a0)])) (fun t kt => ?_) ?_
  · show Steps p.tables e below (T7.setTop (mkF m 28 #[.val (.ref a0), .val (.long q1), .second] [(.long w_sumOfSquares_a0), (.ref a0)])) t
    refine XS.lloadN X7.here hx rfl (hb hby d6_28) rfl ?_
    show Steps p.tables e below (T7.setTop (mkF m 29 #[.val (.ref a0), .val (.long q1), .second] [(.long q1), (.long w_sumOfSquares_a0), (.ref a0)])) t
    refine XS.lloadN X7.here hx rfl (hb hby d6_29) rfl ?_
    exact kt
  refine OGo.callS X7 hx hZ (y := (⟨"java/lang/Math", "multiplyExact", "(JJ)J"⟩ : MethodName)) hown (own_wd hw 38 rfl) (own_wd hw 39 rfl) (own_wd hw 23 rfl) (own_wd hw 40 rfl) (by decide) (rm8 l Z az hw [] q1 q1 h6 n0 (Nat.le_trans Z0 KC6.1) (own_mulok _ hq)) (W := 3) (by decide) (by decide) (g := (mkF m 30 #[.val (.ref a0), .val (.long q1), .second] [(.long q1), (.long q1), (.long w_sumOfSquares_a0), (.ref a0)])) rfl (by rw [hml]; rfl) (argsL := [(.long q1), (.long q1)]) (rest := [(.long w_sumOfSquares_a0), (.ref a0)]) (lenOf pd_6_1 rfl) rfl (by show 2 * 0 + _ ≤ _; exact Nat.le_of_eq rfl) (hb hby d6_30) rfl e7 (by decide) (by decide) ?_
  rintro _ T8 L8 X8 ⟨rfl, Nq8, e8⟩
  have N8 := Fr.app N6 Nq8
  show OGo _ _ _ _ _ _ _ (T8.setTop (mkF m 33 #[.val (.ref a0), .val (.long q1), .second] [(.long (f8 q1 q1)), (.long w_sumOfSquares_a0), (.ref a0)]))
  refine OGo.callS X8 hx hZ (y := (⟨"java/lang/Math", "addExact", "(JJ)J"⟩ : MethodName)) hown (own_wd hw 21 rfl) (own_wd hw 22 rfl) (own_wd hw 23 rfl) (own_wd hw 24 rfl) (by decide) (rm5 l Z az hw [] w_sumOfSquares_a0 (f8 q1 q1) h6 n0 (Nat.le_trans Z0 KC6.1) (own_addok _ _ (by have := hok.2.2.2.2.1; have := hok.2.2.2.2.2; have := own_shsq _ hq; simp only [f8]; exact ⟨by omega, by omega⟩))) (W := 1) (by decide) (by decide) (g := (mkF m 33 #[.val (.ref a0), .val (.long q1), .second] [(.long (f8 q1 q1)), (.long w_sumOfSquares_a0), (.ref a0)])) rfl (by rw [hml]; rfl) (argsL := [(.long w_sumOfSquares_a0), (.long (f8 q1 q1))]) (rest := [(.ref a0)]) (lenOf pd_6_1 rfl) rfl (by show 2 * 0 + _ ≤ _; exact Nat.le_of_eq rfl) (hb hby d6_33) rfl e8 (by decide) (by decide) ?_
  rintro _ T9 L9 X9 ⟨rfl, Nq9, e9⟩
  have N9 := Fr.app N8 Nq9
  show OGo _ _ _ _ _ _ _ (T9.setTop (mkF m 36 #[.val (.ref a0), .val (.long q1), .second] [(.long (f5 w_sumOfSquares_a0 (f8 q1 q1))), (.ref a0)]))
  obtain ⟨T10, h10, X10, e10, W10, st10⟩ := putF X9 hx hZ hown (host := "") (Or.inl (own_wd hw 27 rfl)) Via.refl e9 ((F_sq_a0.other W3 (Or.inr (slot_ne (a0 := az) (Or.inl (own_wd hw 28 rfl)) (Or.inl (own_wd hw 15 rfl)) (by decide) (t := .long) (t' := .long) (by decide) (by decide)))).other W6 (Or.inr (slot_ne (a0 := az) (Or.inl (own_wd hw 28 rfl)) (Or.inl (own_wd hw 26 rfl)) (by decide) (t := .long) (t' := .long) (by decide) (by decide)))) ((E_a0.wr W3).wr W6) (Or.inl (own_wd hw 28 rfl)) (own_wd hw 1 rfl) (ty := .long) (by decide) rfl rfl (g := (mkF m 36 #[.val (.ref a0), .val (.long q1), .second] [(.long (f5 w_sumOfSquares_a0 (f8 q1 q1))), (.ref a0)])) rfl rfl (hb hby d6_36)
  have Fw10 : Fld Z h10 a0 "com/example/oddhands/oddhands/simulator/Sample" "sumOfSquares" "J" (.long (f5 w_sumOfSquares_a0 (f8 q1 q1))) := ((F_sq_a0.other W3 (Or.inr (slot_ne (a0 := az) (Or.inl (own_wd hw 28 rfl)) (Or.inl (own_wd hw 15 rfl)) (by decide) (t := .long) (t' := .long) (by decide) (by decide)))).other W6 (Or.inr (slot_ne (a0 := az) (Or.inl (own_wd hw 28 rfl)) (Or.inl (own_wd hw 26 rfl)) (by decide) (t := .long) (t' := .long) (by decide) (by decide)))).same W10
  have KC10 : Keep h0 h10 [a0] := KC6.wr W10 (Or.inl (List.mem_of_getElem? (i := 0) rfl))
  have N10 := Fr.snoc X10 N9 gn_a0
  refine OGo.step st10 ?_
  show OGo _ _ _ _ _ _ _ (T10.setTop (mkF m 39 #[.val (.ref a0), .val (.long q1), .second] []))
  refine OGo.retV X10 hx hlk hret (hb hby d6_39) ?_ (by decide) (by decide)
  show Q6 Z a0 q1 w_size_a0 w_sum_a0 w_sumOfSquares_a0 kk h0 n0 _ T10.heap _
  rw [e10]
  exact ⟨rfl, N10, KC10, (((E_a0.wr W3).wr W6).wr W10), ((Fw3.other W6 (Or.inr (slot_ne (a0 := az) (Or.inl (own_wd hw 15 rfl)) (Or.inl (own_wd hw 26 rfl)) (by decide) (t := .long) (t' := .long) (by decide) (by decide)))).other W10 (Or.inr (slot_ne (a0 := az) (Or.inl (own_wd hw 15 rfl)) (Or.inl (own_wd hw 28 rfl)) (by decide) (t := .long) (t' := .long) (by decide) (by decide)))), (Fw6.other W10 (Or.inr (slot_ne (a0 := az) (Or.inl (own_wd hw 26 rfl)) (Or.inl (own_wd hw 28 rfl)) (by decide) (t := .long) (t' := .long) (by decide) (by decide)))), Fw10⟩
/-! body 4: com/example/oddhands/oddhands/simulator/Sample.add:(Lcom/example/oddhands/oddhands/simulator/Sample;)V -/
theorem d4_0 : decode prog_8_method_3_code 0 = .ok (.aload_n 0, 1) := by decide +kernel
theorem d4_1 : decode prog_8_method_3_code 1 = .ok (.aload_n 0, 1) := by decide +kernel
theorem d4_2 : decode prog_8_method_3_code 2 = .ok (.getfield 7, 3) := by decide +kernel
theorem d4_5 : decode prog_8_method_3_code 5 = .ok (.aload_n 1, 1) := by decide +kernel
theorem d4_6 : decode prog_8_method_3_code 6 = .ok (.getfield 7, 3) := by decide +kernel
theorem d4_9 : decode prog_8_method_3_code 9 = .ok (.invokestatic 22, 3) := by decide +kernel
theorem d4_12 : decode prog_8_method_3_code 12 = .ok (.putfield 7, 3) := by decide +kernel
theorem d4_15 : decode prog_8_method_3_code 15 = .ok (.aload_n 0, 1) := by decide +kernel
theorem d4_16 : decode prog_8_method_3_code 16 = .ok (.aload_n 0, 1) := by decide +kernel
theorem d4_17 : decode prog_8_method_3_code 17 = .ok (.getfield 19, 3) := by decide +kernel
theorem d4_20 : decode prog_8_method_3_code 20 = .ok (.aload_n 1, 1) := by decide +kernel
theorem d4_21 : decode prog_8_method_3_code 21 = .ok (.getfield 19, 3) := by decide +kernel
theorem d4_24 : decode prog_8_method_3_code 24 = .ok (.invokestatic 22, 3) := by decide +kernel
theorem d4_27 : decode prog_8_method_3_code 27 = .ok (.putfield 19, 3) := by decide +kernel
theorem d4_30 : decode prog_8_method_3_code 30 = .ok (.aload_n 0, 1) := by decide +kernel
theorem d4_31 : decode prog_8_method_3_code 31 = .ok (.aload_n 0, 1) := by decide +kernel
theorem d4_32 : decode prog_8_method_3_code 32 = .ok (.getfield 26, 3) := by decide +kernel
theorem d4_35 : decode prog_8_method_3_code 35 = .ok (.aload_n 1, 1) := by decide +kernel
theorem d4_36 : decode prog_8_method_3_code 36 = .ok (.getfield 26, 3) := by decide +kernel
theorem d4_39 : decode prog_8_method_3_code 39 = .ok (.invokestatic 22, 3) := by decide +kernel
theorem d4_42 : decode prog_8_method_3_code 42 = .ok (.putfield 26, 3) := by decide +kernel
theorem d4_45 : decode prog_8_method_3_code 45 = .ok (.return_, 1) := by decide +kernel
theorem pn_4 : plainName "com/example/oddhands/oddhands/simulator/Sample" = true := by first | (simp [plainName, overriddenIn]; done) | decide +kernel
theorem pd_4_0 : parseMethodDescriptor "(JJ)J" = some ⟨[.long, .long], some .long⟩ := by decide +kernel
theorem ef_4 (m : MethodId) (x0 : Addr) (x1 : Addr) : entryFrame m #[(.ref x0), (.ref x1)] 2 = mkF m 0 #[.val (.ref x0), .val (.ref x1)] [] := by first | (simp [entryFrame, mkF, argsToLocals, Value.category]; done) | rfl
def Q4 (Z : State) (a0 : Addr) (a1 : Addr) (w_size_a0 : Int64) (w_sum_a0 : Int64) (w_sumOfSquares_a0 : Int64) (w_size_a1 : Int64) (w_sum_a1 : Int64) (w_sumOfSquares_a1 : Int64) (kk : Nat) (jj : Nat) (h0 : Heap) (n0 : Nat) (v : Option Value) (h : Heap) (L : List Loc) : Prop := v = none ∧ Fr n0 L ∧ Keep h0 h [a0] ∧ Exa Z h a0 "com/example/oddhands/oddhands/simulator/Sample" ∧ Fld Z h a0 "com/example/oddhands/oddhands/simulator/Sample" "size" "J" (.long (f5 w_size_a0 w_size_a1))
set_option maxRecDepth 65536 in
set_option maxHeartbeats 40000000 in
theorem rm4 (l : Launch) (Z : State) (az : Array Value) (hw : ∀ d ∈ tables_1, d.before az Z = true) (ws : List Jvm.Cond) (a0 : Addr) (a1 : Addr) (w_size_a0 : Int64) (w_sum_a0 : Int64) (w_sumOfSquares_a0 : Int64) (w_size_a1 : Int64) (w_sum_a1 : Int64) (w_sumOfSquares_a1 : Int64) (kk : Nat) (jj : Nat) (h0 : Heap) (n0 : Nat) (Z0 : n0 ≤ h0.size) (F_size_a0 : Fld Z h0 a0 "com/example/oddhands/oddhands/simulator/Sample" "size" "J" (.long w_size_a0)) (F_sum_a0 : Fld Z h0 a0 "com/example/oddhands/oddhands/simulator/Sample" "sum" "J" (.long w_sum_a0)) (F_sq_a0 : Fld Z h0 a0 "com/example/oddhands/oddhands/simulator/Sample" "sumOfSquares" "J" (.long w_sumOfSquares_a0)) (F_size_a1 : Fld Z h0 a1 "com/example/oddhands/oddhands/simulator/Sample" "size" "J" (.long w_size_a1)) (F_sum_a1 : Fld Z h0 a1 "com/example/oddhands/oddhands/simulator/Sample" "sum" "J" (.long w_sum_a1)) (F_sq_a1 : Fld Z h0 a1 "com/example/oddhands/oddhands/simulator/Sample" "sumOfSquares" "J" (.long w_sumOfSquares_a1)) (hok : own_ok kk w_size_a0 w_sum_a0 w_sumOfSquares_a0) (hok' : own_ok jj w_size_a1 w_sum_a1 w_sumOfSquares_a1) (hk : kk ≤ 16) (hk' : jj ≤ 16) (hne : a1 ≠ a0) (E_a0 : Exa Z h0 a0 "com/example/oddhands/oddhands/simulator/Sample") (gn_a0 : n0 ≤ a0) :
    OCtr l Z (⟨"com/example/oddhands/oddhands/simulator/Sample", "add", "(Lcom/example/oddhands/oddhands/simulator/Sample;)V"⟩ : MethodName) prog_8_method_3_code 2 none ws ({ frames := 1, cells := 0, slots := 0, locals := 18 } : Room) #[(.ref a0), (.ref a1)] h0 (Q4 Z a0 a1 w_size_a0 w_sum_a0 w_sumOfSquares_a0 w_size_a1 w_sum_a1 w_sumOfSquares_a1 kk jj h0 n0) := by
  refine OCtr.of (plainFor_of_name pn_4) ?_
  intro p e s m below meth c s₁ X0 hx hlk hZ hown0 hnm hby hml0 hret e0
  have hown : s.vm.findClass "com/example/oddhands/oddhands/simulator/Sample" = some m.cls := hown0
  have hml : c.maxLocals = 2 := hml0
  have N0 := Fr.nil n0
  refine OGo.step (fun t k => castTop (ef_4 m a0 a1) k) ?_
  refine OGo.step (F' := s₁.setTop (mkF m 2 #[.val (.ref a0), .val (.ref a1)] [(.ref a0), (.ref a0)])) (fun t kt => ?_) ?_
  · show Steps p.tables e below (s₁.setTop (mkF m 0 #[.val (.ref a0), .val (.ref a1)] [])) t
    refine XS.aloadN X0.here hx rfl (hb hby d4_0) rfl rfl ?_
    show Steps p.tables e below (s₁.setTop (mkF m 1 #[.val (.ref a0), .val (.ref a1)] [(.ref a0)])) t
    refine XS.aloadN X0.here hx rfl (hb hby d4_1) rfl rfl ?_
    exact kt
  obtain ⟨T1, X1, e1, st1⟩ := getF X0 hx hZ hown (host := "") (Or.inl (own_wd hw 14 rfl)) Via.refl e0 F_size_a0 (g := (mkF m 2 #[.val (.ref a0), .val (.ref a1)] [(.ref a0), (.ref a0)])) rfl rfl (hb hby d4_2)
  refine OGo.step st1 ?_
  show OGo _ _ _ _ _ _ _ (T1.setTop (mkF m 5 #[.val (.ref a0), .val (.ref a1)] [(.long w_size_a0), (.ref a0)]))
  refine OGo.step (F' := T1.setTop (mkF m 6 #[.val (.ref a0), .val (.ref a1)] [(.ref a1), (.long w_size_a0), (.ref a0)])) (fun t kt => ?_) ?_
  · show Steps p.tables e below (T1.setTop (mkF m 5 #[.val (.ref a0), .val (.ref a1)] [(.long w_size_a0), (.ref a0)])) t
    refine XS.aloadN X1.here hx rfl (hb hby d4_5) rfl rfl ?_
    exact kt
  obtain ⟨T2, X2, e2, st2⟩ := getF X1 hx hZ hown (host := "") (Or.inl (own_wd hw 14 rfl)) Via.refl e1 F_size_a1 (g := (mkF m 6 #[.val (.ref a0), .val (.ref a1)] [(.ref a1), (.long w_size_a0), (.ref a0)])) rfl rfl (hb hby d4_6)
  refine OGo.step st2 ?_
  show OGo _ _ _ _ _ _ _ (T2.setTop (mkF m 9 #[.val (.ref a0), .val (.ref a1)] [(.long w_size_a1), (.long w_size_a0), (.ref a0)]))
  refine OGo.callS X2 hx hZ (y := (⟨"java/lang/Math", "addExact", "(JJ)J"⟩ : MethodName)) hown (own_wd hw 21 rfl) (own_wd hw 22 rfl) (own_wd hw 23 rfl) (own_wd hw 24 rfl) (by decide) (rm5 l Z az hw [] w_size_a0 w_size_a1 h0 n0 Z0 (own_addok _ _ (own_join _ _ _ _ _ _ _ _ hok hok' hk hk').1)) (W := 1) (by decide) (by decide) (g := (mkF m 9 #[.val (.ref a0), .val (.ref a1)] [(.long w_size_a1), (.long w_size_a0), (.ref a0)])) rfl (by rw [hml]; rfl) (argsL := [(.long w_size_a0), (.long w_size_a1)]) (rest := [(.ref a0)]) (lenOf pd_4_0 rfl) rfl (by show 2 * 0 + _ ≤ _; exact Nat.le_of_eq rfl) (hb hby d4_9) rfl e2 (by decide) (by decide) ?_
  rintro _ T3 L3 X3 ⟨rfl, Nq3, e3⟩
  have N3 := Fr.app N0 Nq3
  show OGo _ _ _ _ _ _ _ (T3.setTop (mkF m 12 #[.val (.ref a0), .val (.ref a1)] [(.long (f5 w_size_a0 w_size_a1)), (.ref a0)]))
  obtain ⟨T4, h4, X4, e4, W4, st4⟩ := putF X3 hx hZ hown (host := "") (Or.inl (own_wd hw 14 rfl)) Via.refl e3 F_size_a0 E_a0 (Or.inl (own_wd hw 15 rfl)) (own_wd hw 1 rfl) (ty := .long) (by decide) rfl rfl (g := (mkF m 12 #[.val (.ref a0), .val (.ref a1)] [(.long (f5 w_size_a0 w_size_a1)), (.ref a0)])) rfl rfl (hb hby d4_12)
  have Fw4 : Fld Z h4 a0 "com/example/oddhands/oddhands/simulator/Sample" "size" "J" (.long (f5 w_size_a0 w_size_a1)) := F_size_a0.same W4
  have KC4 : Keep h0 h4 [a0] := (Keep.refl h0 [a0]).wr W4 (Or.inl (List.mem_of_getElem? (i := 0) rfl))
  have N4 := Fr.snoc X4 N3 gn_a0
  refine OGo.step st4 ?_
  show OGo _ _ _ _ _ _ _ (T4.setTop (mkF m 15 #[.val (.ref a0), .val (.ref a1)] []))
  refine OGo.step (F' := T4.setTop (mkF m 17 #[.val (.ref a0), .val (.ref a1)] [(.ref a0), (.ref a0)])) (fun t kt => ?_) ?_
  · show Steps p.tables e below (T4.setTop (mkF m 15 #[.val (.ref a0), .val (.ref a1)] [])) t
    refine XS.aloadN X4.here hx rfl (hb hby d4_15) rfl rfl ?_
    show Steps p.tables e below (T4.setTop (mkF m 16 #[.val (.ref a0), .val (.ref a1)] [(.ref a0)])) t
    refine XS.aloadN X4.here hx rfl (hb hby d4_16) rfl rfl ?_
    exact kt
  obtain ⟨T5, X5, e5, st5⟩ := getF X4 hx hZ hown (host := "") (Or.inl (own_wd hw 25 rfl)) Via.refl e4 (F_sum_a0.other W4 (Or.inr (slot_ne (a0 := az) (Or.inl (own_wd hw 26 rfl)) (Or.inl (own_wd hw 15 rfl)) (by decide) (t := .long) (t' := .long) (by decide) (by decide)))) (g := (mkF m 17 #[.val (.ref a0), .val (.ref a1)] [(.ref a0), (.ref a0)])) rfl rfl (hb hby d4_17)
  refine OGo.step st5 ?_
  show OGo _ _ _ _ _ _ _ (T5.setTop (mkF m 20 #[.val (.ref a0), .val (.ref a1)] [(.long w_sum_a0), (.ref a0)]))
  refine OGo.step (F' := T5.setTop (mkF m 21 #[.val (.ref a0), .val (.ref a1)] [(.ref a1), (.long w_sum_a0), (.ref a0)])) (fun t kt => ?_) ?_
  · show Steps p.tables e below (T5.setTop (mkF m 20 #[.val (.ref a0), .val (.ref a1)] [(.long w_sum_a0), (.ref a0)])) t
    refine XS.aloadN X5.here hx rfl (hb hby d4_20) rfl rfl ?_
    exact kt
  obtain ⟨T6, X6, e6, st6⟩ := getF X5 hx hZ hown (host := "") (Or.inl (own_wd hw 25 rfl)) Via.refl e5 (F_sum_a1.other W4 (Or.inl hne)) (g := (mkF m 21 #[.val (.ref a0), .val (.ref a1)] [(.ref a1), (.long w_sum_a0), (.ref a0)])) rfl rfl (hb hby d4_21)
  refine OGo.step st6 ?_
  show OGo _ _ _ _ _ _ _ (T6.setTop (mkF m 24 #[.val (.ref a0), .val (.ref a1)] [(.long w_sum_a1), (.long w_sum_a0), (.ref a0)]))
  refine OGo.callS X6 hx hZ (y := (⟨"java/lang/Math", "addExact", "(JJ)J"⟩ : MethodName)) hown (own_wd hw 21 rfl) (own_wd hw 22 rfl) (own_wd hw 23 rfl) (own_wd hw 24 rfl) (by decide) (rm5 l Z az hw [] w_sum_a0 w_sum_a1 h4 n0 (Nat.le_trans Z0 KC4.1) (own_addok _ _ (own_join _ _ _ _ _ _ _ _ hok hok' hk hk').2.1)) (W := 1) (by decide) (by decide) (g := (mkF m 24 #[.val (.ref a0), .val (.ref a1)] [(.long w_sum_a1), (.long w_sum_a0), (.ref a0)])) rfl (by rw [hml]; rfl) (argsL := [(.long w_sum_a0), (.long w_sum_a1)]) (rest := [(.ref a0)]) (lenOf pd_4_0 rfl) rfl (by show 2 * 0 + _ ≤ _; exact Nat.le_of_eq rfl) (hb hby d4_24) rfl e6 (by decide) (by decide) ?_
  rintro _ T7 L7 X7 ⟨rfl, Nq7, e7⟩
  have N7 := Fr.app N4 Nq7
  show OGo _ _ _ _ _ _ _ (T7.setTop (mkF m 27 #[.val (.ref a0), .val (.ref a1)] [(.long (f5 w_sum_a0 w_sum_a1)), (.ref a0)]))
  obtain ⟨T8, h8, X8, e8, W8, st8⟩ := putF X7 hx hZ hown (host := "") (Or.inl (own_wd hw 25 rfl)) Via.refl e7 (F_sum_a0.other W4 (Or.inr (slot_ne (a0 := az) (Or.inl (own_wd hw 26 rfl)) (Or.inl (own_wd hw 15 rfl)) (by decide) (t := .long) (t' := .long) (by decide) (by decide)))) (E_a0.wr W4) (Or.inl (own_wd hw 26 rfl)) (own_wd hw 1 rfl) (ty := .long) (by decide) rfl rfl (g := (mkF m 27 #[.val (.ref a0), .val (.ref a1)] [(.long (f5 w_sum_a0 w_sum_a1)), (.ref a0)])) rfl rfl (hb hby d4_27)
  have Fw8 : Fld Z h8 a0 "com/example/oddhands/oddhands/simulator/Sample" "sum" "J" (.long (f5 w_sum_a0 w_sum_a1)) := (F_sum_a0.other W4 (Or.inr (slot_ne (a0 := az) (Or.inl (own_wd hw 26 rfl)) (Or.inl (own_wd hw 15 rfl)) (by decide) (t := .long) (t' := .long) (by decide) (by decide)))).same W8
  have KC8 : Keep h0 h8 [a0] := KC4.wr W8 (Or.inl (List.mem_of_getElem? (i := 0) rfl))
  have N8 := Fr.snoc X8 N7 gn_a0
  refine OGo.step st8 ?_
  show OGo _ _ _ _ _ _ _ (T8.setTop (mkF m 30 #[.val (.ref a0), .val (.ref a1)] []))
  refine OGo.step (F' := T8.setTop (mkF m 32 #[.val (.ref a0), .val (.ref a1)] [(.ref a0), (.ref a0)])) (fun t kt => ?_) ?_
  · show Steps p.tables e below (T8.setTop (mkF m 30 #[.val (.ref a0), .val (.ref a1)] [])) t
    refine XS.aloadN X8.here hx rfl (hb hby d4_30) rfl rfl ?_
    show Steps p.tables e below (T8.setTop (mkF m 31 #[.val (.ref a0), .val (.ref a1)] [(.ref a0)])) t
    refine XS.aloadN X8.here hx rfl (hb hby d4_31) rfl rfl ?_
    exact kt
  obtain ⟨T9, X9, e9, st9⟩ := getF X8 hx hZ hown (host := "") (Or.inl (own_wd hw 27 rfl)) Via.refl e8 ((F_sq_a0.other W4 (Or.inr (slot_ne (a0 := az) (Or.inl (own_wd hw 28 rfl)) (Or.inl (own_wd hw 15 rfl)) (by decide) (t := .long) (t' := .long) (by decide) (by decide)))).other W8 (Or.inr (slot_ne (a0 := az) (Or.inl (own_wd hw 28 rfl)) (Or.inl (own_wd hw 26 rfl)) (by decide) (t := .long) (t' := .long) (by decide) (by decide)))) (g := (mkF m 32 #[.val (.ref a0), .val (.ref a1)] [(.ref a0), (.ref a0)])) rfl rfl (hb hby d4_32)
  refine OGo.step st9 ?_
  show OGo _ _ _ _ _ _ _ (T9.setTop (mkF m 35 #[.val (.ref a0), .val (.ref a1)] [(.long w_sumOfSquares_a0), (.ref a0)]))
  refine OGo.step (F' := T9.setTop (mkF m 36 #[.val (.ref a0), .val (.ref a1)] [(.ref a1), (.long w_sumOfSquares_a0), (.ref a0)])) (fun t kt => ?_) ?_
  · show Steps p.tables e below (T9.setTop (mkF m 35 #[.val (.ref a0), .val (.ref a1)] [(.long w_sumOfSquares_a0), (.ref a0)])) t
    refine XS.aloadN X9.here hx rfl (hb hby d4_35) rfl rfl ?_
    exact kt
  obtain ⟨T10, X10, e10, st10⟩ := getF X9 hx hZ hown (host := "") (Or.inl (own_wd hw 27 rfl)) Via.refl e9 ((F_sq_a1.other W4 (Or.inl hne)).other W8 (Or.inl hne)) (g := (mkF m 36 #[.val (.ref a0), .val (.ref a1)] [(.ref a1), (.long w_sumOfSquares_a0), (.ref a0)])) rfl rfl (hb hby d4_36)
  refine OGo.step st10 ?_
  show OGo _ _ _ _ _ _ _ (T10.setTop (mkF m 39 #[.val (.ref a0), .val (.ref a1)] [(.long w_sumOfSquares_a1), (.long w_sumOfSquares_a0), (.ref a0)]))
  refine OGo.callS X10 hx hZ (y := (⟨"java/lang/Math", "addExact", "(JJ)J"⟩ : MethodName)) hown (own_wd hw 21 rfl) (own_wd hw 22 rfl) (own_wd hw 23 rfl) (own_wd hw 24 rfl) (by decide) (rm5 l Z az hw [] w_sumOfSquares_a0 w_sumOfSquares_a1 h8 n0 (Nat.le_trans Z0 KC8.1) (own_addok _ _ (own_join _ _ _ _ _ _ _ _ hok hok' hk hk').2.2)) (W := 1) (by decide) (by decide) (g := (mkF m 39 #[.val (.ref a0), .val (.ref a1)] [(.long w_sumOfSquares_a1), (.long w_sumOfSquares_a0), (.ref a0)])) rfl (by rw [hml]; rfl) (argsL := [(.long w_sumOfSquares_a0), (.long w_sumOfSquares_a1)]) (rest := [(.ref a0)]) (lenOf pd_4_0 rfl) rfl (by show 2 * 0 + _ ≤ _; exact Nat.le_of_eq rfl) (hb hby d4_39) rfl e10 (by decide) (by decide) ?_
  rintro _ T11 L11 X11 ⟨rfl, Nq11, e11⟩
  have N11 := Fr.app N8 Nq11
  show OGo _ _ _ _ _ _ _ (T11.setTop (mkF m 42 #[.val (.ref a0), .val (.ref a1)] [(.long (f5 w_sumOfSquares_a0 w_sumOfSquares_a1)), (.ref a0)]))
  obtain ⟨T12, h12, X12, e12, W12, st12⟩ := putF X11 hx hZ hown (host := "") (Or.inl (own_wd hw 27 rfl)) Via.refl e11 ((F_sq_a0.other W4 (Or.inr (slot_ne (a0 := az) (Or.inl (own_wd hw 28 rfl)) (Or.inl (own_wd hw 15 rfl)) (by decide) (t := .long) (t' := .long) (by decide) (by decide)))).other W8 (Or.inr (slot_ne (a0 := az) (Or.inl (own_wd hw 28 rfl)) (Or.inl (own_wd hw 26 rfl)) (by decide) (t := .long) (t' := .long) (by decide) (by decide)))) ((E_a0.wr W4).wr W8) (Or.inl (own_wd hw 28 rfl)) (own_wd hw 1 rfl) (ty := .long) (by decide) rfl rfl (g := (mkF m 42 #[.val (.ref a0), .val (.ref a1)] [(.long (f5 w_sumOfSquares_a0 w_sumOfSquares_a1)), (.ref a0)])) rfl rfl (hb hby d4_42)
  have Fw12 : Fld Z h12 a0 "com/example/oddhands/oddhands/simulator/Sample" "sumOfSquares" "J" (.long (f5 w_sumOfSquares_a0 w_sumOfSquares_a1)) := ((F_sq_a0.other W4 (Or.inr (slot_ne (a0 := az) (Or.inl (own_wd hw 28 rfl)) (Or.inl (own_wd hw 15 rfl)) (by decide) (t := .long) (t' := .long) (by decide) (by decide)))).other W8 (Or.inr (slot_ne (a0 := az) (Or.inl (own_wd hw 28 rfl)) (Or.inl (own_wd hw 26 rfl)) (by decide) (t := .long) (t' := .long) (by decide) (by decide)))).same W12
  have KC12 : Keep h0 h12 [a0] := KC8.wr W12 (Or.inl (List.mem_of_getElem? (i := 0) rfl))
  have N12 := Fr.snoc X12 N11 gn_a0
  refine OGo.step st12 ?_
  show OGo _ _ _ _ _ _ _ (T12.setTop (mkF m 45 #[.val (.ref a0), .val (.ref a1)] []))
  refine OGo.retV X12 hx hlk hret (hb hby d4_45) ?_ (by decide) (by decide)
  show Q4 Z a0 a1 w_size_a0 w_sum_a0 w_sumOfSquares_a0 w_size_a1 w_sum_a1 w_sumOfSquares_a1 kk jj h0 n0 _ T12.heap _
  rw [e12]
  exact ⟨rfl, N12, KC12, (((E_a0.wr W4).wr W8).wr W12), ((Fw4.other W8 (Or.inr (slot_ne (a0 := az) (Or.inl (own_wd hw 15 rfl)) (Or.inl (own_wd hw 26 rfl)) (by decide) (t := .long) (t' := .long) (by decide) (by decide)))).other W12 (Or.inr (slot_ne (a0 := az) (Or.inl (own_wd hw 15 rfl)) (Or.inl (own_wd hw 28 rfl)) (by decide) (t := .long) (t' := .long) (by decide) (by decide))))⟩
theorem own_ok0 : own_ok 0 (0 : Int64) (0 : Int64) (0 : Int64) := ⟨by decide, by decide, by decide, by decide, by decide, by decide⟩
theorem own_up {x a b : Int32} (h : x < a) (q : a < b) : x < b := by rw [Int32.lt_iff_toInt_lt] at *; omega
theorem own_k0 (x : Int32) (h : (x &&& (3 : Int32)) < (1 : Int32)) : (x &&& (3 : Int32)) = (0 : Int32) := by
  have := (c_andS x (3 : Int32)).2.2 (by decide)
  rw [← Int32.toInt_inj]; rw [Int32.lt_iff_toInt_lt] at h; simp only [Int32.reduceToInt] at *; omega
theorem own_k1 {y : Int32} (h : ¬ (y < (1 : Int32))) : ¬ (y = (0 : Int32)) := by intro q; subst q; exact h (by decide)
theorem own_j1 {y : Int32} (h : y = (1 : Int32)) : ¬ (y = (0 : Int32)) := by subst h; decide
theorem own_j0 (x : Int32) (h : ¬ ((x &&& (1 : Int32)) = (1 : Int32))) : (x &&& (1 : Int32)) = (0 : Int32) := (and_one x).resolve_right h
/-! body 0: com/example/oddhands/oddhands/simulator/SampleIsEmptyPinLaw.law:(IIIII)Z -/
theorem pn_0 : plainName "com/example/oddhands/oddhands/simulator/SampleIsEmptyPinLaw" = true := by first | (simp [plainName, overriddenIn]; done) | decide +kernel
theorem pd_0_0 : parseMethodDescriptor "()V" = some ⟨[], none⟩ := by decide +kernel
theorem pd_0_1 : parseMethodDescriptor "()Z" = some ⟨[], some .boolean⟩ := by decide +kernel
theorem pd_0_2 : parseMethodDescriptor "(J)V" = some ⟨[.long], none⟩ := by decide +kernel
theorem pd_0_3 : parseMethodDescriptor "(Lcom/example/oddhands/oddhands/simulator/Sample;)V" = some ⟨[(.object "com/example/oddhands/oddhands/simulator/Sample")], none⟩ := by decide +kernel
theorem ef_0 (m : MethodId) (x0 : Int32) (x1 : Int32) (x2 : Int32) (x3 : Int32) (x4 : Int32) : entryFrame m #[(.int x0), (.int x1), (.int x2), (.int x3), (.int x4)] maxLocals = mkF m 0 #[.val (.int x0), .val (.int x1), .val (.int x2), .val (.int x3), .val (.int x4), .unset, .unset, .unset, .unset, .unset, .unset, .unset, .unset] [] := by first | (simp [entryFrame, mkF, argsToLocals, Value.category, maxLocals]; done) | rfl
def f0 (p0 : Int32) (p4 : Int32) : Int32 :=
  if (p0 &&& (3 : Int32)) < (1 : Int32) then (if (p4 &&& (1 : Int32)) = (1 : Int32) then (1 : Int32)
    else (1 : Int32))
  else if (p0 &&& (3 : Int32)) < (2 : Int32) then (if (p4 &&& (1 : Int32)) = (1 : Int32) then (1 : Int32)
      else (1 : Int32))
    else if (p0 &&& (3 : Int32)) < (3 : Int32) then (if (p4 &&& (1 : Int32)) = (1 : Int32) then (1 : Int32)
        else (1 : Int32))
      else if (p4 &&& (1 : Int32)) = (1 : Int32) then (1 : Int32)
        else (1 : Int32)
theorem fb0 (p0 : Int32) (p4 : Int32) : nar .boolean (f0 p0 p4) = (f0 p0 p4) := by
  unfold f0
  repeat' split
  all_goals first | rfl | decide
def Q0 (Z : State) (p0 : Int32) (p1 : Int32) (p2 : Int32) (p3 : Int32) (p4 : Int32) (h0 : Heap) (n0 : Nat) (v : Option Value) (h : Heap) (L : List Loc) : Prop := v = some (.int (f0 p0 p4)) ∧ Fr n0 L ∧ Keep h0 h []
set_option maxRecDepth 65536 in
set_option maxHeartbeats 40000000 in
theorem rm0 (l : Launch) (Z : State) (az : Array Value) (hw : ∀ d ∈ tables_1, d.before az Z = true) (ws : List Jvm.Cond) (p0 : Int32) (p1 : Int32) (p2 : Int32) (p3 : Int32) (p4 : Int32) (h0 : Heap) (n0 : Nat) (Z0 : n0 ≤ h0.size) :
    OCtr l Z x code maxLocals ret ws room_1 #[(.int p0), (.int p1), (.int p2), (.int p3), (.int p4)] h0 (Q0 Z p0 p1 p2 p3 p4 h0 n0) := by
  refine OCtr.of (plainFor_of_name pn_0) ?_
  intro p e s m below meth c s₁ X0 hx hlk hZ hown0 hnm hby hml0 hret e0
  have hown : s.vm.findClass "com/example/oddhands/oddhands/simulator/SampleIsEmptyPinLaw" = some m.cls := hown0
  have hml : c.maxLocals = 13 := hml0
  have N0 := Fr.nil n0
  refine OGo.step (fun t k => castTop (ef_0 m p0 p1 p2 p3 p4) k) ?_
  obtain ⟨T1, h1, X1, e1, E1, A1, D1, -, st1⟩ := newO X0 hx hZ hown (own_wd hw 0 rfl) (own_wd hw 1 rfl) (own_wd hw 2 rfl) e0 (g := (mkF m 0 #[.val (.int p0), .val (.int p1), .val (.int p2), .val (.int p3), .val (.int p4), .unset, .unset, .unset, .unset, .unset, .unset, .unset, .unset] [])) rfl (hb hby at_0) (by decide) (by decide)
  obtain ⟨b1, g1⟩ : ∃ z, z = h0.size := ⟨_, rfl⟩
  rw [← g1] at A1 D1 st1
  have sz_b1 : h0.size ≤ b1 := Nat.le_trans (Keep.refl h0 []).1 (Nat.le_of_eq g1.symm)
  have gn_b1 : n0 ≤ b1 := Nat.le_trans Z0 sz_b1
  have KC1 : Keep h0 h1 [] := (Keep.refl h0 []).ext E1
  have F1_size : Fld Z h1 b1 "com/example/oddhands/oddhands/simulator/Sample" "size" "J" (.long (0 : Int64)) := D1 (Or.inl (own_wd hw 15 rfl)) (ty := .long) (by decide)
  have F1_sum : Fld Z h1 b1 "com/example/oddhands/oddhands/simulator/Sample" "sum" "J" (.long (0 : Int64)) := D1 (Or.inl (own_wd hw 26 rfl)) (ty := .long) (by decide)
  have F1_sumOfSquares : Fld Z h1 b1 "com/example/oddhands/oddhands/simulator/Sample" "sumOfSquares" "J" (.long (0 : Int64)) := D1 (Or.inl (own_wd hw 28 rfl)) (ty := .long) (by decide)
  refine OGo.step st1 ?_
  show OGo _ _ _ _ _ _ _ (T1.setTop (mkF m 3 #[.val (.int p0), .val (.int p1), .val (.int p2), .val (.int p3), .val (.int p4), .unset, .unset, .unset, .unset, .unset, .unset, .unset, .unset] [(.ref b1)]))
  refine OGo.step (F' := T1.setTop (mkF m 4 #[.val (.int p0), .val (.int p1), .val (.int p2), .val (.int p3), .val (.int p4), .unset, .unset, .unset, .unset, .unset, .unset, .unset, .unset] [(.ref b1), (.ref b1)])) (fun t kt => ?_) ?_
  · show Steps p.tables e below (T1.setTop (mkF m 3 #[.val (.int p0), .val (.int p1), .val (.int p2), .val (.int p3), .val (.int p4), .unset, .unset, .unset, .unset, .unset, .unset, .unset, .unset] [(.ref b1)])) t
    refine XS.dup X1.here hx rfl (hb hby at_3) rfl rfl ?_
    exact kt
  refine OGo.callC X1 hx hZ (y := (⟨"com/example/oddhands/oddhands/simulator/Sample", "<init>", "()V"⟩ : MethodName)) rfl hown (own_wd hw 3 rfl) (own_wd hw 4 rfl) (own_wd hw 2 rfl) (own_wd hw 5 rfl) (by decide) (rm1 l Z az hw [] b1 h1 n0 (Nat.le_trans Z0 KC1.1)) (W := 1) (by decide) (by decide) (b := b1) (g := (mkF m 4 #[.val (.int p0), .val (.int p1), .val (.int p2), .val (.int p3), .val (.int p4), .unset, .unset, .unset, .unset, .unset, .unset, .unset, .unset] [(.ref b1), (.ref b1)])) rfl (by rw [hml]; rfl) (argsL := []) (rest := [(.ref b1)]) (lenOf pd_0_0 rfl) rfl (by show 2 * 0 + _ ≤ _; exact Nat.le_of_eq rfl) (hb hby at_4) rfl e1 (by decide) (by decide) ?_
  rintro _ T2 L2 X2 ⟨rfl, Nq2, e2⟩
  have N2 := Fr.app N0 Nq2
  show OGo _ _ _ _ _ _ _ (T2.setTop (mkF m 7 #[.val (.int p0), .val (.int p1), .val (.int p2), .val (.int p3), .val (.int p4), .unset, .unset, .unset, .unset, .unset, .unset, .unset, .unset] [(.ref b1)]))
  refine OGo.step (F' := T2.setTop (mkF m 11 #[.val (.int p0), .val (.int p1), .val (.int p2), .val (.int p3), .val (.int p4), .val (.ref b1), .unset, .unset, .unset, .unset, .unset, .unset, .unset] [(.ref b1)])) (fun t kt => ?_) ?_
  · show Steps p.tables e below (T2.setTop (mkF m 7 #[.val (.int p0), .val (.int p1), .val (.int p2), .val (.int p3), .val (.int p4), .unset, .unset, .unset, .unset, .unset, .unset, .unset, .unset] [(.ref b1)])) t
    refine XS.astore X2.here hx rfl (hb hby at_7) rfl rfl (l' := #[.val (.int p0), .val (.int p1), .val (.int p2), .val (.int p3), .val (.int p4), .val (.ref b1), .unset, .unset, .unset, .unset, .unset, .unset, .unset]) rfl ?_
    show Steps p.tables e below (T2.setTop (mkF m 9 #[.val (.int p0), .val (.int p1), .val (.int p2), .val (.int p3), .val (.int p4), .val (.ref b1), .unset, .unset, .unset, .unset, .unset, .unset, .unset] [])) t
    refine XS.aload X2.here hx rfl (hb hby at_9) rfl rfl ?_
    exact kt
  refine OGo.callV X2 hx hZ (y := (⟨"com/example/oddhands/oddhands/simulator/Sample", "isEmpty", "()Z"⟩ : MethodName)) (z := (⟨"com/example/oddhands/oddhands/simulator/Sample", "isEmpty", "()Z"⟩ : MethodName)) hown (own_wd hw 9 rfl) (own_wd hw 10 rfl) (notFace_of_selects (args := #[]) (mvT hZ (own_wd hw 12 rfl))) (own_wd hw 12 rfl) (own_wd hw 11 rfl) (own_wd hw 2 rfl) (own_wd hw 13 rfl) (by decide) (rm3 l Z az hw [] b1 (0 : Int64) h1 n0 (Nat.le_trans Z0 KC1.1) F1_size) (W := 0) (by decide) (by decide) A1 (g := (mkF m 11 #[.val (.int p0), .val (.int p1), .val (.int p2), .val (.int p3), .val (.int p4), .val (.ref b1), .unset, .unset, .unset, .unset, .unset, .unset, .unset] [(.ref b1)])) rfl (by rw [hml]; rfl) (argsL := []) (rest := []) (lenOf pd_0_1 rfl) rfl (by show 2 * 0 + _ ≤ _; exact Nat.le_of_eq rfl) (hb hby at_11) rfl e2 (by decide) (by decide) ?_
  rintro _ T3 L3 X3 ⟨hv3, Nq3, e3⟩
  have N3 := Fr.app N2 Nq3
  rw [show (f3 (0 : Int64)) = (1 : Int32) from by decide] at hv3
  subst hv3
  show OGo _ _ _ _ _ _ _ (T3.setTop (mkF m 14 #[.val (.int p0), .val (.int p1), .val (.int p2), .val (.int p3), .val (.int p4), .val (.ref b1), .unset, .unset, .unset, .unset, .unset, .unset, .unset] [(.int (1 : Int32))]))
  refine OGo.step (F' := T3.setTop (mkF m 24 #[.val (.int p0), .val (.int p1), .val (.int p2), .val (.int p3), .val (.int p4), .val (.ref b1), .val (.int (1 : Int32)), .val (.int (p0 &&& (3 : Int32))), .unset, .unset, .unset, .unset, .unset] [(.int (1 : Int32)), (.int (p0 &&& (3 : Int32)))])) (fun t kt => ?_) ?_
  · show Steps p.tables e below (T3.setTop (mkF m 14 #[.val (.int p0), .val (.int p1), .val (.int p2), .val (.int p3), .val (.int p4), .val (.ref b1), .unset, .unset, .unset, .unset, .unset, .unset, .unset] [(.int (1 : Int32))])) t
    refine XS.istore X3.here hx rfl (hb hby at_14) rfl (l' := #[.val (.int p0), .val (.int p1), .val (.int p2), .val (.int p3), .val (.int p4), .val (.ref b1), .val (.int (1 : Int32)), .unset, .unset, .unset, .unset, .unset, .unset]) rfl ?_
    show Steps p.tables e below (T3.setTop (mkF m 16 #[.val (.int p0), .val (.int p1), .val (.int p2), .val (.int p3), .val (.int p4), .val (.ref b1), .val (.int (1 : Int32)), .unset, .unset, .unset, .unset, .unset, .unset] [])) t
    refine XS.iloadN X3.here hx rfl (hb hby at_16) rfl ?_
    show Steps p.tables e below (T3.setTop (mkF m 17 #[.val (.int p0), .val (.int p1), .val (.int p2), .val (.int p3), .val (.int p4), .val (.ref b1), .val (.int (1 : Int32)), .unset, .unset, .unset, .unset, .unset, .unset] [(.int p0)])) t
    refine XS.iconst X3.here hx rfl (hb hby at_17) ?_
    show Steps p.tables e below (T3.setTop (mkF m 18 #[.val (.int p0), .val (.int p1), .val (.int p2), .val (.int p3), .val (.int p4), .val (.ref b1), .val (.int (1 : Int32)), .unset, .unset, .unset, .unset, .unset, .unset] [(.int (3 : Int32)), (.int p0)])) t
    refine XS.iand X3.here hx rfl (hb hby at_18) rfl ?_
    show Steps p.tables e below (T3.setTop (mkF m 19 #[.val (.int p0), .val (.int p1), .val (.int p2), .val (.int p3), .val (.int p4), .val (.ref b1), .val (.int (1 : Int32)), .unset, .unset, .unset, .unset, .unset, .unset] [(.int (p0 &&& (3 : Int32)))])) t
    refine XS.istore X3.here hx rfl (hb hby at_19) rfl (l' := #[.val (.int p0), .val (.int p1), .val (.int p2), .val (.int p3), .val (.int p4), .val (.ref b1), .val (.int (1 : Int32)), .val (.int (p0 &&& (3 : Int32))), .unset, .unset, .unset, .unset, .unset]) rfl ?_
    show Steps p.tables e below (T3.setTop (mkF m 21 #[.val (.int p0), .val (.int p1), .val (.int p2), .val (.int p3), .val (.int p4), .val (.ref b1), .val (.int (1 : Int32)), .val (.int (p0 &&& (3 : Int32))), .unset, .unset, .unset, .unset, .unset] [])) t
    refine XS.iload X3.here hx rfl (hb hby at_21) rfl ?_
    show Steps p.tables e below (T3.setTop (mkF m 23 #[.val (.int p0), .val (.int p1), .val (.int p2), .val (.int p3), .val (.int p4), .val (.ref b1), .val (.int (1 : Int32)), .val (.int (p0 &&& (3 : Int32))), .unset, .unset, .unset, .unset, .unset] [(.int (p0 &&& (3 : Int32)))])) t
    refine XS.iconst X3.here hx rfl (hb hby at_23) ?_
    exact kt
  by_cases hc24 : (p0 &&& (3 : Int32)) < (1 : Int32)
  · refine OGo.step (F' := T3.setTop (mkF m 35 #[.val (.int p0), .val (.int p1), .val (.int p2), .val (.int p3), .val (.int p4), .val (.ref b1), .val (.int (1 : Int32)), .val (.int (p0 &&& (3 : Int32))), .unset, .unset, .unset, .unset, .unset] [])) (fun t kt => ?_) ?_
    · show Steps p.tables e below (T3.setTop (mkF m 24 #[.val (.int p0), .val (.int p1), .val (.int p2), .val (.int p3), .val (.int p4), .val (.ref b1), .val (.int (1 : Int32)), .val (.int (p0 &&& (3 : Int32))), .unset, .unset, .unset, .unset, .unset] [(.int (1 : Int32)), (.int (p0 &&& (3 : Int32)))])) t
      refine XS.icmpYes X3.here hx rfl (pc0 := 24) (pc' := 35) rfl (hb hby at_24) rfl (tlt hc24).1 (by decide) (by decide) ?_
      exact kt
    refine OGo.step (F' := T3.setTop (mkF m 65 #[.val (.int p0), .val (.int p1), .val (.int p2), .val (.int p3), .val (.int p4), .val (.ref b1), .val (.int (1 : Int32)), .val (.int (p0 &&& (3 : Int32))), .unset, .unset, .unset, .unset, .unset] [(.ref b1)])) (fun t kt => ?_) ?_
    · show Steps p.tables e below (T3.setTop (mkF m 35 #[.val (.int p0), .val (.int p1), .val (.int p2), .val (.int p3), .val (.int p4), .val (.ref b1), .val (.int (1 : Int32)), .val (.int (p0 &&& (3 : Int32))), .unset, .unset, .unset, .unset, .unset] [])) t
      refine XS.iload X3.here hx rfl (hb hby at_35) rfl ?_
      show Steps p.tables e below (T3.setTop (mkF m 37 #[.val (.int p0), .val (.int p1), .val (.int p2), .val (.int p3), .val (.int p4), .val (.ref b1), .val (.int (1 : Int32)), .val (.int (p0 &&& (3 : Int32))), .unset, .unset, .unset, .unset, .unset] [(.int (p0 &&& (3 : Int32)))])) t
      refine XS.iconst X3.here hx rfl (hb hby at_37) ?_
      show Steps p.tables e below (T3.setTop (mkF m 38 #[.val (.int p0), .val (.int p1), .val (.int p2), .val (.int p3), .val (.int p4), .val (.ref b1), .val (.int (1 : Int32)), .val (.int (p0 &&& (3 : Int32))), .unset, .unset, .unset, .unset, .unset] [(.int (2 : Int32)), (.int (p0 &&& (3 : Int32)))])) t
      refine XS.icmpYes X3.here hx rfl (pc0 := 38) (pc' := 49) rfl (hb hby at_38) rfl (tlt (own_up hc24 (by decide))).1 (by decide) (by decide) ?_
      show Steps p.tables e below (T3.setTop (mkF m 49 #[.val (.int p0), .val (.int p1), .val (.int p2), .val (.int p3), .val (.int p4), .val (.ref b1), .val (.int (1 : Int32)), .val (.int (p0 &&& (3 : Int32))), .unset, .unset, .unset, .unset, .unset] [])) t
      refine XS.iload X3.here hx rfl (hb hby at_49) rfl ?_
      show Steps p.tables e below (T3.setTop (mkF m 51 #[.val (.int p0), .val (.int p1), .val (.int p2), .val (.int p3), .val (.int p4), .val (.ref b1), .val (.int (1 : Int32)), .val (.int (p0 &&& (3 : Int32))), .unset, .unset, .unset, .unset, .unset] [(.int (p0 &&& (3 : Int32)))])) t
      refine XS.iconst X3.here hx rfl (hb hby at_51) ?_
      show Steps p.tables e below (T3.setTop (mkF m 52 #[.val (.int p0), .val (.int p1), .val (.int p2), .val (.int p3), .val (.int p4), .val (.ref b1), .val (.int (1 : Int32)), .val (.int (p0 &&& (3 : Int32))), .unset, .unset, .unset, .unset, .unset] [(.int (3 : Int32)), (.int (p0 &&& (3 : Int32)))])) t
      refine XS.icmpYes X3.here hx rfl (pc0 := 52) (pc' := 63) rfl (hb hby at_52) rfl (tlt (own_up hc24 (by decide))).1 (by decide) (by decide) ?_
      show Steps p.tables e below (T3.setTop (mkF m 63 #[.val (.int p0), .val (.int p1), .val (.int p2), .val (.int p3), .val (.int p4), .val (.ref b1), .val (.int (1 : Int32)), .val (.int (p0 &&& (3 : Int32))), .unset, .unset, .unset, .unset, .unset] [])) t
      refine XS.aload X3.here hx rfl (hb hby at_63) rfl rfl ?_
      exact kt
    refine OGo.callV X3 hx hZ (y := (⟨"com/example/oddhands/oddhands/simulator/Sample", "isEmpty", "()Z"⟩ : MethodName)) (z := (⟨"com/example/oddhands/oddhands/simulator/Sample", "isEmpty", "()Z"⟩ : MethodName)) hown (own_wd hw 9 rfl) (own_wd hw 10 rfl) (notFace_of_selects (args := #[]) (mvT hZ (own_wd hw 12 rfl))) (own_wd hw 12 rfl) (own_wd hw 11 rfl) (own_wd hw 2 rfl) (own_wd hw 13 rfl) (by decide) (rm3 l Z az hw [] b1 (0 : Int64) h1 n0 (Nat.le_trans Z0 KC1.1) F1_size) (W := 0) (by decide) (by decide) A1 (g := (mkF m 65 #[.val (.int p0), .val (.int p1), .val (.int p2), .val (.int p3), .val (.int p4), .val (.ref b1), .val (.int (1 : Int32)), .val (.int (p0 &&& (3 : Int32))), .unset, .unset, .unset, .unset, .unset] [(.ref b1)])) rfl (by rw [hml]; rfl) (argsL := []) (rest := []) (lenOf pd_0_1 rfl) rfl (by show 2 * 0 + _ ≤ _; exact Nat.le_of_eq rfl) (hb hby at_65) rfl e3 (by decide) (by decide) ?_
    rintro _ T4 L4 X4 ⟨hv4, Nq4, e4⟩
    have N4 := Fr.app N3 Nq4
    rw [show (f3 (0 : Int64)) = (1 : Int32) from by decide] at hv4
    subst hv4
    show OGo _ _ _ _ _ _ _ (T4.setTop (mkF m 68 #[.val (.int p0), .val (.int p1), .val (.int p2), .val (.int p3), .val (.int p4), .val (.ref b1), .val (.int (1 : Int32)), .val (.int (p0 &&& (3 : Int32))), .unset, .unset, .unset, .unset, .unset] [(.int (1 : Int32))]))
    refine OGo.step (F' := T4.setTop (mkF m 70 #[.val (.int p0), .val (.int p1), .val (.int p2), .val (.int p3), .val (.int p4), .val (.ref b1), .val (.int (1 : Int32)), .val (.int (p0 &&& (3 : Int32))), .val (.int (1 : Int32)), .unset, .unset, .unset, .unset] [])) (fun t kt => ?_) ?_
    · show Steps p.tables e below (T4.setTop (mkF m 68 #[.val (.int p0), .val (.int p1), .val (.int p2), .val (.int p3), .val (.int p4), .val (.ref b1), .val (.int (1 : Int32)), .val (.int (p0 &&& (3 : Int32))), .unset, .unset, .unset, .unset, .unset] [(.int (1 : Int32))])) t
      refine XS.istore X4.here hx rfl (hb hby at_68) rfl (l' := #[.val (.int p0), .val (.int p1), .val (.int p2), .val (.int p3), .val (.int p4), .val (.ref b1), .val (.int (1 : Int32)), .val (.int (p0 &&& (3 : Int32))), .val (.int (1 : Int32)), .unset, .unset, .unset, .unset]) rfl ?_
      exact kt
    obtain ⟨T5, h5, X5, e5, E5, A5, D5, -, st5⟩ := newO X4 hx hZ hown (own_wd hw 0 rfl) (own_wd hw 1 rfl) (own_wd hw 2 rfl) e4 (g := (mkF m 70 #[.val (.int p0), .val (.int p1), .val (.int p2), .val (.int p3), .val (.int p4), .val (.ref b1), .val (.int (1 : Int32)), .val (.int (p0 &&& (3 : Int32))), .val (.int (1 : Int32)), .unset, .unset, .unset, .unset] [])) rfl (hb hby at_70) (by decide) (by decide)
    obtain ⟨b5, g5⟩ : ∃ z, z = h1.size := ⟨_, rfl⟩
    rw [← g5] at A5 D5 st5
    have sz_b5 : h0.size ≤ b5 := Nat.le_trans KC1.1 (Nat.le_of_eq g5.symm)
    have gn_b5 : n0 ≤ b5 := Nat.le_trans Z0 sz_b5
    have KC5 : Keep h0 h5 [] := KC1.ext E5
    have F5_size : Fld Z h5 b5 "com/example/oddhands/oddhands/simulator/Sample" "size" "J" (.long (0 : Int64)) := D5 (Or.inl (own_wd hw 15 rfl)) (ty := .long) (by decide)
    have F5_sum : Fld Z h5 b5 "com/example/oddhands/oddhands/simulator/Sample" "sum" "J" (.long (0 : Int64)) := D5 (Or.inl (own_wd hw 26 rfl)) (ty := .long) (by decide)
    have F5_sumOfSquares : Fld Z h5 b5 "com/example/oddhands/oddhands/simulator/Sample" "sumOfSquares" "J" (.long (0 : Int64)) := D5 (Or.inl (own_wd hw 28 rfl)) (ty := .long) (by decide)
    refine OGo.step st5 ?_
    show OGo _ _ _ _ _ _ _ (T5.setTop (mkF m 73 #[.val (.int p0), .val (.int p1), .val (.int p2), .val (.int p3), .val (.int p4), .val (.ref b1), .val (.int (1 : Int32)), .val (.int (p0 &&& (3 : Int32))), .val (.int (1 : Int32)), .unset, .unset, .unset, .unset] [(.ref b5)]))
    refine OGo.step (F' := T5.setTop (mkF m 74 #[.val (.int p0), .val (.int p1), .val (.int p2), .val (.int p3), .val (.int p4), .val (.ref b1), .val (.int (1 : Int32)), .val (.int (p0 &&& (3 : Int32))), .val (.int (1 : Int32)), .unset, .unset, .unset, .unset] [(.ref b5), (.ref b5)])) (fun t kt => ?_) ?_
    · show Steps p.tables e below (T5.setTop (mkF m 73 #[.val (.int p0), .val (.int p1), .val (.int p2), .val (.int p3), .val (.int p4), .val (.ref b1), .val (.int (1 : Int32)), .val (.int (p0 &&& (3 : Int32))), .val (.int (1 : Int32)), .unset, .unset, .unset, .unset] [(.ref b5)])) t
      refine XS.dup X5.here hx rfl (hb hby at_73) rfl rfl ?_
      exact kt
    refine OGo.callC X5 hx hZ (y := (⟨"com/example/oddhands/oddhands/simulator/Sample", "<init>", "()V"⟩ : MethodName)) rfl hown (own_wd hw 3 rfl) (own_wd hw 4 rfl) (own_wd hw 2 rfl) (own_wd hw 5 rfl) (by decide) (rm1 l Z az hw [] b5 h5 n0 (Nat.le_trans Z0 KC5.1)) (W := 1) (by decide) (by decide) (b := b5) (g := (mkF m 74 #[.val (.int p0), .val (.int p1), .val (.int p2), .val (.int p3), .val (.int p4), .val (.ref b1), .val (.int (1 : Int32)), .val (.int (p0 &&& (3 : Int32))), .val (.int (1 : Int32)), .unset, .unset, .unset, .unset] [(.ref b5), (.ref b5)])) rfl (by rw [hml]; rfl) (argsL := []) (rest := [(.ref b5)]) (lenOf pd_0_0 rfl) rfl (by show 2 * 0 + _ ≤ _; exact Nat.le_of_eq rfl) (hb hby at_74) rfl e5 (by decide) (by decide) ?_
    rintro _ T6 L6 X6 ⟨rfl, Nq6, e6⟩
    have N6 := Fr.app N4 Nq6
    show OGo _ _ _ _ _ _ _ (T6.setTop (mkF m 77 #[.val (.int p0), .val (.int p1), .val (.int p2), .val (.int p3), .val (.int p4), .val (.ref b1), .val (.int (1 : Int32)), .val (.int (p0 &&& (3 : Int32))), .val (.int (1 : Int32)), .unset, .unset, .unset, .unset] [(.ref b5)]))
    refine OGo.step (F' := T6.setTop (mkF m 88 #[.val (.int p0), .val (.int p1), .val (.int p2), .val (.int p3), .val (.int p4), .val (.ref b1), .val (.int (1 : Int32)), .val (.int (p0 &&& (3 : Int32))), .val (.int (1 : Int32)), .val (.ref b5), .val (.int (p4 &&& (1 : Int32))), .unset, .unset] [(.int (1 : Int32)), (.int (p4 &&& (1 : Int32)))])) (fun t kt => ?_) ?_
    · show Steps p.tables e below (T6.setTop (mkF m 77 #[.val (.int p0), .val (.int p1), .val (.int p2), .val (.int p3), .val (.int p4), .val (.ref b1), .val (.int (1 : Int32)), .val (.int (p0 &&& (3 : Int32))), .val (.int (1 : Int32)), .unset, .unset, .unset, .unset] [(.ref b5)])) t
      refine XS.astore X6.here hx rfl (hb hby at_77) rfl rfl (l' := #[.val (.int p0), .val (.int p1), .val (.int p2), .val (.int p3), .val (.int p4), .val (.ref b1), .val (.int (1 : Int32)), .val (.int (p0 &&& (3 : Int32))), .val (.int (1 : Int32)), .val (.ref b5), .unset, .unset, .unset]) rfl ?_
      show Steps p.tables e below (T6.setTop (mkF m 79 #[.val (.int p0), .val (.int p1), .val (.int p2), .val (.int p3), .val (.int p4), .val (.ref b1), .val (.int (1 : Int32)), .val (.int (p0 &&& (3 : Int32))), .val (.int (1 : Int32)), .val (.ref b5), .unset, .unset, .unset] [])) t
      refine XS.iload X6.here hx rfl (hb hby at_79) rfl ?_
      show Steps p.tables e below (T6.setTop (mkF m 81 #[.val (.int p0), .val (.int p1), .val (.int p2), .val (.int p3), .val (.int p4), .val (.ref b1), .val (.int (1 : Int32)), .val (.int (p0 &&& (3 : Int32))), .val (.int (1 : Int32)), .val (.ref b5), .unset, .unset, .unset] [(.int p4)])) t
      refine XS.iconst X6.here hx rfl (hb hby at_81) ?_
      show Steps p.tables e below (T6.setTop (mkF m 82 #[.val (.int p0), .val (.int p1), .val (.int p2), .val (.int p3), .val (.int p4), .val (.ref b1), .val (.int (1 : Int32)), .val (.int (p0 &&& (3 : Int32))), .val (.int (1 : Int32)), .val (.ref b5), .unset, .unset, .unset] [(.int (1 : Int32)), (.int p4)])) t
      refine XS.iand X6.here hx rfl (hb hby at_82) rfl ?_
      show Steps p.tables e below (T6.setTop (mkF m 83 #[.val (.int p0), .val (.int p1), .val (.int p2), .val (.int p3), .val (.int p4), .val (.ref b1), .val (.int (1 : Int32)), .val (.int (p0 &&& (3 : Int32))), .val (.int (1 : Int32)), .val (.ref b5), .unset, .unset, .unset] [(.int (p4 &&& (1 : Int32)))])) t
      refine XS.istore X6.here hx rfl (hb hby at_83) rfl (l' := #[.val (.int p0), .val (.int p1), .val (.int p2), .val (.int p3), .val (.int p4), .val (.ref b1), .val (.int (1 : Int32)), .val (.int (p0 &&& (3 : Int32))), .val (.int (1 : Int32)), .val (.ref b5), .val (.int (p4 &&& (1 : Int32))), .unset, .unset]) rfl ?_
      show Steps p.tables e below (T6.setTop (mkF m 85 #[.val (.int p0), .val (.int p1), .val (.int p2), .val (.int p3), .val (.int p4), .val (.ref b1), .val (.int (1 : Int32)), .val (.int (p0 &&& (3 : Int32))), .val (.int (1 : Int32)), .val (.ref b5), .val (.int (p4 &&& (1 : Int32))), .unset, .unset] [])) t
      refine XS.iload X6.here hx rfl (hb hby at_85) rfl ?_
      show Steps p.tables e below (T6.setTop (mkF m 87 #[.val (.int p0), .val (.int p1), .val (.int p2), .val (.int p3), .val (.int p4), .val (.ref b1), .val (.int (1 : Int32)), .val (.int (p0 &&& (3 : Int32))), .val (.int (1 : Int32)), .val (.ref b5), .val (.int (p4 &&& (1 : Int32))), .unset, .unset] [(.int (p4 &&& (1 : Int32)))])) t
      refine XS.iconst X6.here hx rfl (hb hby at_87) ?_
      exact kt
    by_cases hc88 : (p4 &&& (1 : Int32)) = (1 : Int32)
    · refine OGo.step (F' := T6.setTop (mkF m 91 #[.val (.int p0), .val (.int p1), .val (.int p2), .val (.int p3), .val (.int p4), .val (.ref b1), .val (.int (1 : Int32)), .val (.int (p0 &&& (3 : Int32))), .val (.int (1 : Int32)), .val (.ref b5), .val (.int (p4 &&& (1 : Int32))), .unset, .unset] [])) (fun t kt => ?_) ?_
      · show Steps p.tables e below (T6.setTop (mkF m 88 #[.val (.int p0), .val (.int p1), .val (.int p2), .val (.int p3), .val (.int p4), .val (.ref b1), .val (.int (1 : Int32)), .val (.int (p0 &&& (3 : Int32))), .val (.int (1 : Int32)), .val (.ref b5), .val (.int (p4 &&& (1 : Int32))), .unset, .unset] [(.int (1 : Int32)), (.int (p4 &&& (1 : Int32)))])) t
        refine XS.icmpNo X6.here hx rfl (hb hby at_88) rfl (teq hc88).2 ?_
        exact kt
      refine OGo.step (F' := T6.setTop (mkF m 99 #[.val (.int p0), .val (.int p1), .val (.int p2), .val (.int p3), .val (.int p4), .val (.ref b1), .val (.int (1 : Int32)), .val (.int (p0 &&& (3 : Int32))), .val (.int (1 : Int32)), .val (.ref b5), .val (.int (p4 &&& (1 : Int32))), .unset, .unset] [(.long (((p4 >>> ((1 : Int32) &&& 31)).toInt16.toInt32).toInt64)), (.ref b5)])) (fun t kt => ?_) ?_
      · show Steps p.tables e below (T6.setTop (mkF m 91 #[.val (.int p0), .val (.int p1), .val (.int p2), .val (.int p3), .val (.int p4), .val (.ref b1), .val (.int (1 : Int32)), .val (.int (p0 &&& (3 : Int32))), .val (.int (1 : Int32)), .val (.ref b5), .val (.int (p4 &&& (1 : Int32))), .unset, .unset] [])) t
        refine XS.aload X6.here hx rfl (hb hby at_91) rfl rfl ?_
        show Steps p.tables e below (T6.setTop (mkF m 93 #[.val (.int p0), .val (.int p1), .val (.int p2), .val (.int p3), .val (.int p4), .val (.ref b1), .val (.int (1 : Int32)), .val (.int (p0 &&& (3 : Int32))), .val (.int (1 : Int32)), .val (.ref b5), .val (.int (p4 &&& (1 : Int32))), .unset, .unset] [(.ref b5)])) t
        refine XS.iload X6.here hx rfl (hb hby at_93) rfl ?_
        show Steps p.tables e below (T6.setTop (mkF m 95 #[.val (.int p0), .val (.int p1), .val (.int p2), .val (.int p3), .val (.int p4), .val (.ref b1), .val (.int (1 : Int32)), .val (.int (p0 &&& (3 : Int32))), .val (.int (1 : Int32)), .val (.ref b5), .val (.int (p4 &&& (1 : Int32))), .unset, .unset] [(.int p4), (.ref b5)])) t
        refine XS.iconst X6.here hx rfl (hb hby at_95) ?_
        show Steps p.tables e below (T6.setTop (mkF m 96 #[.val (.int p0), .val (.int p1), .val (.int p2), .val (.int p3), .val (.int p4), .val (.ref b1), .val (.int (1 : Int32)), .val (.int (p0 &&& (3 : Int32))), .val (.int (1 : Int32)), .val (.ref b5), .val (.int (p4 &&& (1 : Int32))), .unset, .unset] [(.int (1 : Int32)), (.int p4), (.ref b5)])) t
        refine XS.ishr X6.here hx rfl (hb hby at_96) rfl ?_
        show Steps p.tables e below (T6.setTop (mkF m 97 #[.val (.int p0), .val (.int p1), .val (.int p2), .val (.int p3), .val (.int p4), .val (.ref b1), .val (.int (1 : Int32)), .val (.int (p0 &&& (3 : Int32))), .val (.int (1 : Int32)), .val (.ref b5), .val (.int (p4 &&& (1 : Int32))), .unset, .unset] [(.int (p4 >>> ((1 : Int32) &&& 31))), (.ref b5)])) t
        refine XS.i2s X6.here hx rfl (hb hby at_97) rfl ?_
        show Steps p.tables e below (T6.setTop (mkF m 98 #[.val (.int p0), .val (.int p1), .val (.int p2), .val (.int p3), .val (.int p4), .val (.ref b1), .val (.int (1 : Int32)), .val (.int (p0 &&& (3 : Int32))), .val (.int (1 : Int32)), .val (.ref b5), .val (.int (p4 &&& (1 : Int32))), .unset, .unset] [(.int ((p4 >>> ((1 : Int32) &&& 31)).toInt16.toInt32)), (.ref b5)])) t
        refine XS.i2l X6.here hx rfl (hb hby at_98) rfl ?_
        exact kt
      refine OGo.callV X6 hx hZ (y := (⟨"com/example/oddhands/oddhands/simulator/Sample", "add", "(J)V"⟩ : MethodName)) (z := (⟨"com/example/oddhands/oddhands/simulator/Sample", "add", "(J)V"⟩ : MethodName)) hown (own_wd hw 29 rfl) (own_wd hw 30 rfl) (notFace_of_selects (args := #[]) (mvT hZ (own_wd hw 32 rfl))) (own_wd hw 32 rfl) (own_wd hw 31 rfl) (own_wd hw 2 rfl) (own_wd hw 33 rfl) (by decide) (rm6 l Z az hw [] b5 (((p4 >>> ((1 : Int32) &&& 31)).toInt16.toInt32).toInt64) (0 : Int64) (0 : Int64) (0 : Int64) 0 h5 n0 (Nat.le_trans Z0 KC5.1) F5_size F5_sum F5_sumOfSquares own_ok0 (by decide) (own_sh16 _) A5 gn_b5) (W := 0) (by decide) (by decide) A5 (g := (mkF m 99 #[.val (.int p0), .val (.int p1), .val (.int p2), .val (.int p3), .val (.int p4), .val (.ref b1), .val (.int (1 : Int32)), .val (.int (p0 &&& (3 : Int32))), .val (.int (1 : Int32)), .val (.ref b5), .val (.int (p4 &&& (1 : Int32))), .unset, .unset] [(.long (((p4 >>> ((1 : Int32) &&& 31)).toInt16.toInt32).toInt64)), (.ref b5)])) rfl (by rw [hml]; rfl) (argsL := [(.long (((p4 >>> ((1 : Int32) &&& 31)).toInt16.toInt32).toInt64))]) (rest := []) (lenOf pd_0_2 rfl) rfl (by show 2 * 0 + _ ≤ _; exact Nat.le_of_eq rfl) (hb hby at_99) rfl e6 (by decide) (by decide) ?_
      rintro _ T7 L7 X7 ⟨rfl, Nq7, K7, P7_0, P7_1, P7_2, P7_3⟩
      have KC7 : Keep h0 T7.heap [] := KC5.trans K7 (allS (Or.inr sz_b5) all0)
      have N7 := Fr.app N6 Nq7
      show OGo _ _ _ _ _ _ _ (T7.setTop (mkF m 102 #[.val (.int p0), .val (.int p1), .val (.int p2), .val (.int p3), .val (.int p4), .val (.ref b1), .val (.int (1 : Int32)), .val (.int (p0 &&& (3 : Int32))), .val (.int (1 : Int32)), .val (.ref b5), .val (.int (p4 &&& (1 : Int32))), .unset, .unset] []))
      refine OGo.step (F' := T7.setTop (mkF m 104 #[.val (.int p0), .val (.int p1), .val (.int p2), .val (.int p3), .val (.int p4), .val (.ref b1), .val (.int (1 : Int32)), .val (.int (p0 &&& (3 : Int32))), .val (.int (1 : Int32)), .val (.ref b5), .val (.int (p4 &&& (1 : Int32))), .unset, .unset] [(.ref b5)])) (fun t kt => ?_) ?_
      · show Steps p.tables e below (T7.setTop (mkF m 102 #[.val (.int p0), .val (.int p1), .val (.int p2), .val (.int p3), .val (.int p4), .val (.ref b1), .val (.int (1 : Int32)), .val (.int (p0 &&& (3 : Int32))), .val (.int (1 : Int32)), .val (.ref b5), .val (.int (p4 &&& (1 : Int32))), .unset, .unset] [])) t
        refine XS.aload X7.here hx rfl (hb hby at_102) rfl rfl ?_
        exact kt
      refine OGo.callV X7 hx hZ (y := (⟨"com/example/oddhands/oddhands/simulator/Sample", "isEmpty", "()Z"⟩ : MethodName)) (z := (⟨"com/example/oddhands/oddhands/simulator/Sample", "isEmpty", "()Z"⟩ : MethodName)) hown (own_wd hw 9 rfl) (own_wd hw 10 rfl) (notFace_of_selects (args := #[]) (mvT hZ (own_wd hw 12 rfl))) (own_wd hw 12 rfl) (own_wd hw 11 rfl) (own_wd hw 2 rfl) (own_wd hw 13 rfl) (by decide) (rm3 l Z az hw [] b5 (f7 (0 : Int64)) T7.heap n0 (Nat.le_trans Z0 KC7.1) P7_1) (W := 0) (by decide) (by decide) P7_0 (g := (mkF m 104 #[.val (.int p0), .val (.int p1), .val (.int p2), .val (.int p3), .val (.int p4), .val (.ref b1), .val (.int (1 : Int32)), .val (.int (p0 &&& (3 : Int32))), .val (.int (1 : Int32)), .val (.ref b5), .val (.int (p4 &&& (1 : Int32))), .unset, .unset] [(.ref b5)])) rfl (by rw [hml]; rfl) (argsL := []) (rest := []) (lenOf pd_0_1 rfl) rfl (by show 2 * 0 + _ ≤ _; exact Nat.le_of_eq rfl) (hb hby at_104) rfl rfl (by decide) (by decide) ?_
      rintro _ T8 L8 X8 ⟨hv8, Nq8, e8⟩
      have N8 := Fr.app N7 Nq8
      rw [show (f3 (f7 (0 : Int64))) = (0 : Int32) from by decide] at hv8
      subst hv8
      show OGo _ _ _ _ _ _ _ (T8.setTop (mkF m 107 #[.val (.int p0), .val (.int p1), .val (.int p2), .val (.int p3), .val (.int p4), .val (.ref b1), .val (.int (1 : Int32)), .val (.int (p0 &&& (3 : Int32))), .val (.int (1 : Int32)), .val (.ref b5), .val (.int (p4 &&& (1 : Int32))), .unset, .unset] [(.int (0 : Int32))]))
      refine OGo.step (F' := T8.setTop (mkF m 113 #[.val (.int p0), .val (.int p1), .val (.int p2), .val (.int p3), .val (.int p4), .val (.ref b1), .val (.int (1 : Int32)), .val (.int (p0 &&& (3 : Int32))), .val (.int (1 : Int32)), .val (.ref b5), .val (.int (p4 &&& (1 : Int32))), .val (.int (0 : Int32)), .unset] [(.ref b5), (.ref b1)])) (fun t kt => ?_) ?_
      · show Steps p.tables e below (T8.setTop (mkF m 107 #[.val (.int p0), .val (.int p1), .val (.int p2), .val (.int p3), .val (.int p4), .val (.ref b1), .val (.int (1 : Int32)), .val (.int (p0 &&& (3 : Int32))), .val (.int (1 : Int32)), .val (.ref b5), .val (.int (p4 &&& (1 : Int32))), .unset, .unset] [(.int (0 : Int32))])) t
        refine XS.istore X8.here hx rfl (hb hby at_107) rfl (l' := #[.val (.int p0), .val (.int p1), .val (.int p2), .val (.int p3), .val (.int p4), .val (.ref b1), .val (.int (1 : Int32)), .val (.int (p0 &&& (3 : Int32))), .val (.int (1 : Int32)), .val (.ref b5), .val (.int (p4 &&& (1 : Int32))), .val (.int (0 : Int32)), .unset]) rfl ?_
        show Steps p.tables e below (T8.setTop (mkF m 109 #[.val (.int p0), .val (.int p1), .val (.int p2), .val (.int p3), .val (.int p4), .val (.ref b1), .val (.int (1 : Int32)), .val (.int (p0 &&& (3 : Int32))), .val (.int (1 : Int32)), .val (.ref b5), .val (.int (p4 &&& (1 : Int32))), .val (.int (0 : Int32)), .unset] [])) t
        refine XS.aload X8.here hx rfl (hb hby at_109) rfl rfl ?_
        show Steps p.tables e below (T8.setTop (mkF m 111 #[.val (.int p0), .val (.int p1), .val (.int p2), .val (.int p3), .val (.int p4), .val (.ref b1), .val (.int (1 : Int32)), .val (.int (p0 &&& (3 : Int32))), .val (.int (1 : Int32)), .val (.ref b5), .val (.int (p4 &&& (1 : Int32))), .val (.int (0 : Int32)), .unset] [(.ref b1)])) t
        refine XS.aload X8.here hx rfl (hb hby at_111) rfl rfl ?_
        exact kt
      refine OGo.callV X8 hx hZ (y := (⟨"com/example/oddhands/oddhands/simulator/Sample", "add", "(Lcom/example/oddhands/oddhands/simulator/Sample;)V"⟩ : MethodName)) (z := (⟨"com/example/oddhands/oddhands/simulator/Sample", "add", "(Lcom/example/oddhands/oddhands/simulator/Sample;)V"⟩ : MethodName)) hown (own_wd hw 16 rfl) (own_wd hw 17 rfl) (notFace_of_selects (args := #[]) (mvT hZ (own_wd hw 19 rfl))) (own_wd hw 19 rfl) (own_wd hw 18 rfl) (own_wd hw 2 rfl) (own_wd hw 20 rfl) (by decide) (rm4 l Z az hw [] b1 b5 (0 : Int64) (0 : Int64) (0 : Int64) (f7 (0 : Int64)) (f5 (0 : Int64) (((p4 >>> ((1 : Int32) &&& 31)).toInt16.toInt32).toInt64)) (f5 (0 : Int64) (f8 (((p4 >>> ((1 : Int32) &&& 31)).toInt16.toInt32).toInt64) (((p4 >>> ((1 : Int32) &&& 31)).toInt16.toInt32).toInt64))) 0 1 T7.heap n0 (Nat.le_trans Z0 KC7.1) ((F1_size.ext E5).keep K7 (ninS (Nat.ne_of_lt (Nat.lt_of_lt_of_le A1.lt (Nat.le_of_eq g5.symm))) nin0)) ((F1_sum.ext E5).keep K7 (ninS (Nat.ne_of_lt (Nat.lt_of_lt_of_le A1.lt (Nat.le_of_eq g5.symm))) nin0)) ((F1_sumOfSquares.ext E5).keep K7 (ninS (Nat.ne_of_lt (Nat.lt_of_lt_of_le A1.lt (Nat.le_of_eq g5.symm))) nin0)) P7_1 P7_2 P7_3 own_ok0 (own_step 0 _ _ _ _ own_ok0 (own_sh16 _) (by decide)) (by decide) (by decide) (Ne.symm (Nat.ne_of_lt (Nat.lt_of_lt_of_le A1.lt (Nat.le_of_eq g5.symm)))) ((A1.ext E5).keep K7) gn_b1) (W := 0) (by decide) (by decide) ((A1.ext E5).keep K7) (g := (mkF m 113 #[.val (.int p0), .val (.int p1), .val (.int p2), .val (.int p3), .val (.int p4), .val (.ref b1), .val (.int (1 : Int32)), .val (.int (p0 &&& (3 : Int32))), .val (.int (1 : Int32)), .val (.ref b5), .val (.int (p4 &&& (1 : Int32))), .val (.int (0 : Int32)), .unset] [(.ref b5), (.ref b1)])) rfl (by rw [hml]; rfl) (argsL := [(.ref b5)]) (rest := []) (lenOf pd_0_3 rfl) rfl (by show 2 * 0 + _ ≤ _; exact Nat.le_of_eq rfl) (hb hby at_113) rfl e8 (by decide) (by decide) ?_
      rintro _ T9 L9 X9 ⟨rfl, Nq9, K9, P9_0, P9_1⟩
      have KC9 : Keep h0 T9.heap [] := KC7.trans K9 (allS (Or.inr sz_b1) all0)
      have N9 := Fr.app N8 Nq9
      show OGo _ _ _ _ _ _ _ (T9.setTop (mkF m 116 #[.val (.int p0), .val (.int p1), .val (.int p2), .val (.int p3), .val (.int p4), .val (.ref b1), .val (.int (1 : Int32)), .val (.int (p0 &&& (3 : Int32))), .val (.int (1 : Int32)), .val (.ref b5), .val (.int (p4 &&& (1 : Int32))), .val (.int (0 : Int32)), .unset] []))
      refine OGo.step (F' := T9.setTop (mkF m 118 #[.val (.int p0), .val (.int p1), .val (.int p2), .val (.int p3), .val (.int p4), .val (.ref b1), .val (.int (1 : Int32)), .val (.int (p0 &&& (3 : Int32))), .val (.int (1 : Int32)), .val (.ref b5), .val (.int (p4 &&& (1 : Int32))), .val (.int (0 : Int32)), .unset] [(.ref b1)])) (fun t kt => ?_) ?_
      · show Steps p.tables e below (T9.setTop (mkF m 116 #[.val (.int p0), .val (.int p1), .val (.int p2), .val (.int p3), .val (.int p4), .val (.ref b1), .val (.int (1 : Int32)), .val (.int (p0 &&& (3 : Int32))), .val (.int (1 : Int32)), .val (.ref b5), .val (.int (p4 &&& (1 : Int32))), .val (.int (0 : Int32)), .unset] [])) t
        refine XS.aload X9.here hx rfl (hb hby at_116) rfl rfl ?_
        exact kt
      refine OGo.callV X9 hx hZ (y := (⟨"com/example/oddhands/oddhands/simulator/Sample", "isEmpty", "()Z"⟩ : MethodName)) (z := (⟨"com/example/oddhands/oddhands/simulator/Sample", "isEmpty", "()Z"⟩ : MethodName)) hown (own_wd hw 9 rfl) (own_wd hw 10 rfl) (notFace_of_selects (args := #[]) (mvT hZ (own_wd hw 12 rfl))) (own_wd hw 12 rfl) (own_wd hw 11 rfl) (own_wd hw 2 rfl) (own_wd hw 13 rfl) (by decide) (rm3 l Z az hw [] b1 (f5 (0 : Int64) (f7 (0 : Int64))) T9.heap n0 (Nat.le_trans Z0 KC9.1) P9_1) (W := 0) (by decide) (by decide) P9_0 (g := (mkF m 118 #[.val (.int p0), .val (.int p1), .val (.int p2), .val (.int p3), .val (.int p4), .val (.ref b1), .val (.int (1 : Int32)), .val (.int (p0 &&& (3 : Int32))), .val (.int (1 : Int32)), .val (.ref b5), .val (.int (p4 &&& (1 : Int32))), .val (.int (0 : Int32)), .unset] [(.ref b1)])) rfl (by rw [hml]; rfl) (argsL := []) (rest := []) (lenOf pd_0_1 rfl) rfl (by show 2 * 0 + _ ≤ _; exact Nat.le_of_eq rfl) (hb hby at_118) rfl rfl (by decide) (by decide) ?_
      rintro _ T10 L10 X10 ⟨hv10, Nq10, e10⟩
      have N10 := Fr.app N9 Nq10
      rw [show (f3 (f5 (0 : Int64) (f7 (0 : Int64)))) = (0 : Int32) from by decide] at hv10
      subst hv10
      show OGo _ _ _ _ _ _ _ (T10.setTop (mkF m 121 #[.val (.int p0), .val (.int p1), .val (.int p2), .val (.int p3), .val (.int p4), .val (.ref b1), .val (.int (1 : Int32)), .val (.int (p0 &&& (3 : Int32))), .val (.int (1 : Int32)), .val (.ref b5), .val (.int (p4 &&& (1 : Int32))), .val (.int (0 : Int32)), .unset] [(.int (0 : Int32))]))
      refine OGo.step (F' := T10.setTop (mkF m 183 #[.val (.int p0), .val (.int p1), .val (.int p2), .val (.int p3), .val (.int p4), .val (.ref b1), .val (.int (1 : Int32)), .val (.int (p0 &&& (3 : Int32))), .val (.int (1 : Int32)), .val (.ref b5), .val (.int (p4 &&& (1 : Int32))), .val (.int (0 : Int32)), .val (.int (0 : Int32))] [(.int (1 : Int32))])) (fun t kt => ?_) ?_
      · show Steps p.tables e below (T10.setTop (mkF m 121 #[.val (.int p0), .val (.int p1), .val (.int p2), .val (.int p3), .val (.int p4), .val (.ref b1), .val (.int (1 : Int32)), .val (.int (p0 &&& (3 : Int32))), .val (.int (1 : Int32)), .val (.ref b5), .val (.int (p4 &&& (1 : Int32))), .val (.int (0 : Int32)), .unset] [(.int (0 : Int32))])) t
        refine XS.istore X10.here hx rfl (hb hby at_121) rfl (l' := #[.val (.int p0), .val (.int p1), .val (.int p2), .val (.int p3), .val (.int p4), .val (.ref b1), .val (.int (1 : Int32)), .val (.int (p0 &&& (3 : Int32))), .val (.int (1 : Int32)), .val (.ref b5), .val (.int (p4 &&& (1 : Int32))), .val (.int (0 : Int32)), .val (.int (0 : Int32))]) rfl ?_
        show Steps p.tables e below (T10.setTop (mkF m 123 #[.val (.int p0), .val (.int p1), .val (.int p2), .val (.int p3), .val (.int p4), .val (.ref b1), .val (.int (1 : Int32)), .val (.int (p0 &&& (3 : Int32))), .val (.int (1 : Int32)), .val (.ref b5), .val (.int (p4 &&& (1 : Int32))), .val (.int (0 : Int32)), .val (.int (0 : Int32))] [])) t
        refine XS.iload X10.here hx rfl (hb hby at_123) rfl ?_
        show Steps p.tables e below (T10.setTop (mkF m 125 #[.val (.int p0), .val (.int p1), .val (.int p2), .val (.int p3), .val (.int p4), .val (.ref b1), .val (.int (1 : Int32)), .val (.int (p0 &&& (3 : Int32))), .val (.int (1 : Int32)), .val (.ref b5), .val (.int (p4 &&& (1 : Int32))), .val (.int (0 : Int32)), .val (.int (0 : Int32))] [(.int (1 : Int32))])) t
        refine XS.ifNo X10.here hx rfl (hb hby at_125) rfl ((if0 _ _).trans (feq (by decide : ¬ ((1 : Int32) = (0 : Int32)))).1) ?_
        show Steps p.tables e below (T10.setTop (mkF m 128 #[.val (.int p0), .val (.int p1), .val (.int p2), .val (.int p3), .val (.int p4), .val (.ref b1), .val (.int (1 : Int32)), .val (.int (p0 &&& (3 : Int32))), .val (.int (1 : Int32)), .val (.ref b5), .val (.int (p4 &&& (1 : Int32))), .val (.int (0 : Int32)), .val (.int (0 : Int32))] [])) t
        refine XS.iload X10.here hx rfl (hb hby at_128) rfl ?_
        show Steps p.tables e below (T10.setTop (mkF m 130 #[.val (.int p0), .val (.int p1), .val (.int p2), .val (.int p3), .val (.int p4), .val (.ref b1), .val (.int (1 : Int32)), .val (.int (p0 &&& (3 : Int32))), .val (.int (1 : Int32)), .val (.ref b5), .val (.int (p4 &&& (1 : Int32))), .val (.int (0 : Int32)), .val (.int (0 : Int32))] [(.int (1 : Int32))])) t
        refine XS.iload X10.here hx rfl (hb hby at_130) rfl ?_
        show Steps p.tables e below (T10.setTop (mkF m 132 #[.val (.int p0), .val (.int p1), .val (.int p2), .val (.int p3), .val (.int p4), .val (.ref b1), .val (.int (1 : Int32)), .val (.int (p0 &&& (3 : Int32))), .val (.int (1 : Int32)), .val (.ref b5), .val (.int (p4 &&& (1 : Int32))), .val (.int (0 : Int32)), .val (.int (0 : Int32))] [(.int (p0 &&& (3 : Int32))), (.int (1 : Int32))])) t
        refine XS.ifNo X10.here hx rfl (hb hby at_132) rfl ((if0 _ _).trans (teq (own_k0 _ hc24)).2) ?_
        show Steps p.tables e below (T10.setTop (mkF m 135 #[.val (.int p0), .val (.int p1), .val (.int p2), .val (.int p3), .val (.int p4), .val (.ref b1), .val (.int (1 : Int32)), .val (.int (p0 &&& (3 : Int32))), .val (.int (1 : Int32)), .val (.ref b5), .val (.int (p4 &&& (1 : Int32))), .val (.int (0 : Int32)), .val (.int (0 : Int32))] [(.int (1 : Int32))])) t
        refine XS.iconst X10.here hx rfl (hb hby at_135) ?_
        show Steps p.tables e below (T10.setTop (mkF m 136 #[.val (.int p0), .val (.int p1), .val (.int p2), .val (.int p3), .val (.int p4), .val (.ref b1), .val (.int (1 : Int32)), .val (.int (p0 &&& (3 : Int32))), .val (.int (1 : Int32)), .val (.ref b5), .val (.int (p4 &&& (1 : Int32))), .val (.int (0 : Int32)), .val (.int (0 : Int32))] [(.int (1 : Int32)), (.int (1 : Int32))])) t
        refine XS.goto X10.here hx rfl (pc0 := 136) (pc' := 140) rfl (hb hby at_136) (by decide) (by decide) ?_
        show Steps p.tables e below (T10.setTop (mkF m 140 #[.val (.int p0), .val (.int p1), .val (.int p2), .val (.int p3), .val (.int p4), .val (.ref b1), .val (.int (1 : Int32)), .val (.int (p0 &&& (3 : Int32))), .val (.int (1 : Int32)), .val (.ref b5), .val (.int (p4 &&& (1 : Int32))), .val (.int (0 : Int32)), .val (.int (0 : Int32))] [(.int (1 : Int32)), (.int (1 : Int32))])) t
        refine XS.icmpNo X10.here hx rfl (hb hby at_140) rfl (teq (by decide : (1 : Int32) = (1 : Int32))).2 ?_
        show Steps p.tables e below (T10.setTop (mkF m 143 #[.val (.int p0), .val (.int p1), .val (.int p2), .val (.int p3), .val (.int p4), .val (.ref b1), .val (.int (1 : Int32)), .val (.int (p0 &&& (3 : Int32))), .val (.int (1 : Int32)), .val (.ref b5), .val (.int (p4 &&& (1 : Int32))), .val (.int (0 : Int32)), .val (.int (0 : Int32))] [])) t
        refine XS.iload X10.here hx rfl (hb hby at_143) rfl ?_
        show Steps p.tables e below (T10.setTop (mkF m 145 #[.val (.int p0), .val (.int p1), .val (.int p2), .val (.int p3), .val (.int p4), .val (.ref b1), .val (.int (1 : Int32)), .val (.int (p0 &&& (3 : Int32))), .val (.int (1 : Int32)), .val (.ref b5), .val (.int (p4 &&& (1 : Int32))), .val (.int (0 : Int32)), .val (.int (0 : Int32))] [(.int (0 : Int32))])) t
        refine XS.iload X10.here hx rfl (hb hby at_145) rfl ?_
        show Steps p.tables e below (T10.setTop (mkF m 147 #[.val (.int p0), .val (.int p1), .val (.int p2), .val (.int p3), .val (.int p4), .val (.ref b1), .val (.int (1 : Int32)), .val (.int (p0 &&& (3 : Int32))), .val (.int (1 : Int32)), .val (.ref b5), .val (.int (p4 &&& (1 : Int32))), .val (.int (0 : Int32)), .val (.int (0 : Int32))] [(.int (p4 &&& (1 : Int32))), (.int (0 : Int32))])) t
        refine XS.ifYes X10.here hx rfl (pc0 := 147) (pc' := 154) rfl (hb hby at_147) rfl ((if0 _ _).trans (feq (own_j1 hc88)).2) (by decide) (by decide) ?_
        show Steps p.tables e below (T10.setTop (mkF m 154 #[.val (.int p0), .val (.int p1), .val (.int p2), .val (.int p3), .val (.int p4), .val (.ref b1), .val (.int (1 : Int32)), .val (.int (p0 &&& (3 : Int32))), .val (.int (1 : Int32)), .val (.ref b5), .val (.int (p4 &&& (1 : Int32))), .val (.int (0 : Int32)), .val (.int (0 : Int32))] [(.int (0 : Int32))])) t
        refine XS.iconst X10.here hx rfl (hb hby at_154) ?_
        show Steps p.tables e below (T10.setTop (mkF m 155 #[.val (.int p0), .val (.int p1), .val (.int p2), .val (.int p3), .val (.int p4), .val (.ref b1), .val (.int (1 : Int32)), .val (.int (p0 &&& (3 : Int32))), .val (.int (1 : Int32)), .val (.ref b5), .val (.int (p4 &&& (1 : Int32))), .val (.int (0 : Int32)), .val (.int (0 : Int32))] [(.int (0 : Int32)), (.int (0 : Int32))])) t
        refine XS.icmpNo X10.here hx rfl (hb hby at_155) rfl (teq (by decide : (0 : Int32) = (0 : Int32))).2 ?_
        show Steps p.tables e below (T10.setTop (mkF m 158 #[.val (.int p0), .val (.int p1), .val (.int p2), .val (.int p3), .val (.int p4), .val (.ref b1), .val (.int (1 : Int32)), .val (.int (p0 &&& (3 : Int32))), .val (.int (1 : Int32)), .val (.ref b5), .val (.int (p4 &&& (1 : Int32))), .val (.int (0 : Int32)), .val (.int (0 : Int32))] [])) t
        refine XS.iload X10.here hx rfl (hb hby at_158) rfl ?_
        show Steps p.tables e below (T10.setTop (mkF m 160 #[.val (.int p0), .val (.int p1), .val (.int p2), .val (.int p3), .val (.int p4), .val (.ref b1), .val (.int (1 : Int32)), .val (.int (p0 &&& (3 : Int32))), .val (.int (1 : Int32)), .val (.ref b5), .val (.int (p4 &&& (1 : Int32))), .val (.int (0 : Int32)), .val (.int (0 : Int32))] [(.int (0 : Int32))])) t
        refine XS.iload X10.here hx rfl (hb hby at_160) rfl ?_
        show Steps p.tables e below (T10.setTop (mkF m 162 #[.val (.int p0), .val (.int p1), .val (.int p2), .val (.int p3), .val (.int p4), .val (.ref b1), .val (.int (1 : Int32)), .val (.int (p0 &&& (3 : Int32))), .val (.int (1 : Int32)), .val (.ref b5), .val (.int (p4 &&& (1 : Int32))), .val (.int (0 : Int32)), .val (.int (0 : Int32))] [(.int (p0 &&& (3 : Int32))), (.int (0 : Int32))])) t
        refine XS.ifNo X10.here hx rfl (hb hby at_162) rfl ((if0 _ _).trans (teq (own_k0 _ hc24)).2) ?_
        show Steps p.tables e below (T10.setTop (mkF m 165 #[.val (.int p0), .val (.int p1), .val (.int p2), .val (.int p3), .val (.int p4), .val (.ref b1), .val (.int (1 : Int32)), .val (.int (p0 &&& (3 : Int32))), .val (.int (1 : Int32)), .val (.ref b5), .val (.int (p4 &&& (1 : Int32))), .val (.int (0 : Int32)), .val (.int (0 : Int32))] [(.int (0 : Int32))])) t
        refine XS.iload X10.here hx rfl (hb hby at_165) rfl ?_
        show Steps p.tables e below (T10.setTop (mkF m 167 #[.val (.int p0), .val (.int p1), .val (.int p2), .val (.int p3), .val (.int p4), .val (.ref b1), .val (.int (1 : Int32)), .val (.int (p0 &&& (3 : Int32))), .val (.int (1 : Int32)), .val (.ref b5), .val (.int (p4 &&& (1 : Int32))), .val (.int (0 : Int32)), .val (.int (0 : Int32))] [(.int (p4 &&& (1 : Int32))), (.int (0 : Int32))])) t
        refine XS.ifYes X10.here hx rfl (pc0 := 167) (pc' := 174) rfl (hb hby at_167) rfl ((if0 _ _).trans (feq (own_j1 hc88)).2) (by decide) (by decide) ?_
        show Steps p.tables e below (T10.setTop (mkF m 174 #[.val (.int p0), .val (.int p1), .val (.int p2), .val (.int p3), .val (.int p4), .val (.ref b1), .val (.int (1 : Int32)), .val (.int (p0 &&& (3 : Int32))), .val (.int (1 : Int32)), .val (.ref b5), .val (.int (p4 &&& (1 : Int32))), .val (.int (0 : Int32)), .val (.int (0 : Int32))] [(.int (0 : Int32))])) t
        refine XS.iconst X10.here hx rfl (hb hby at_174) ?_
        show Steps p.tables e below (T10.setTop (mkF m 175 #[.val (.int p0), .val (.int p1), .val (.int p2), .val (.int p3), .val (.int p4), .val (.ref b1), .val (.int (1 : Int32)), .val (.int (p0 &&& (3 : Int32))), .val (.int (1 : Int32)), .val (.ref b5), .val (.int (p4 &&& (1 : Int32))), .val (.int (0 : Int32)), .val (.int (0 : Int32))] [(.int (0 : Int32)), (.int (0 : Int32))])) t
        refine XS.icmpNo X10.here hx rfl (hb hby at_175) rfl (teq (by decide : (0 : Int32) = (0 : Int32))).2 ?_
        show Steps p.tables e below (T10.setTop (mkF m 178 #[.val (.int p0), .val (.int p1), .val (.int p2), .val (.int p3), .val (.int p4), .val (.ref b1), .val (.int (1 : Int32)), .val (.int (p0 &&& (3 : Int32))), .val (.int (1 : Int32)), .val (.ref b5), .val (.int (p4 &&& (1 : Int32))), .val (.int (0 : Int32)), .val (.int (0 : Int32))] [])) t
        refine XS.iconst X10.here hx rfl (hb hby at_178) ?_
        show Steps p.tables e below (T10.setTop (mkF m 179 #[.val (.int p0), .val (.int p1), .val (.int p2), .val (.int p3), .val (.int p4), .val (.ref b1), .val (.int (1 : Int32)), .val (.int (p0 &&& (3 : Int32))), .val (.int (1 : Int32)), .val (.ref b5), .val (.int (p4 &&& (1 : Int32))), .val (.int (0 : Int32)), .val (.int (0 : Int32))] [(.int (1 : Int32))])) t
        refine XS.goto X10.here hx rfl (pc0 := 179) (pc' := 183) rfl (hb hby at_179) (by decide) (by decide) ?_
        exact kt
      refine OGo.retZ X10 hx hlk (t := .boolean) (z' := (1 : Int32)) hret (by simp) (hb hby at_183) rfl ?_ (by decide) (by decide)
      show Q0 Z p0 p1 p2 p3 p4 h0 n0 _ T10.heap _
      rw [e10]
      exact ⟨(by rw [f0, if_pos hc24, if_pos hc88]), N10, KC9⟩
    · refine OGo.step (F' := T6.setTop (mkF m 102 #[.val (.int p0), .val (.int p1), .val (.int p2), .val (.int p3), .val (.int p4), .val (.ref b1), .val (.int (1 : Int32)), .val (.int (p0 &&& (3 : Int32))), .val (.int (1 : Int32)), .val (.ref b5), .val (.int (p4 &&& (1 : Int32))), .unset, .unset] [])) (fun t kt => ?_) ?_
      · show Steps p.tables e below (T6.setTop (mkF m 88 #[.val (.int p0), .val (.int p1), .val (.int p2), .val (.int p3), .val (.int p4), .val (.ref b1), .val (.int (1 : Int32)), .val (.int (p0 &&& (3 : Int32))), .val (.int (1 : Int32)), .val (.ref b5), .val (.int (p4 &&& (1 : Int32))), .unset, .unset] [(.int (1 : Int32)), (.int (p4 &&& (1 : Int32)))])) t
        refine XS.icmpYes X6.here hx rfl (pc0 := 88) (pc' := 102) rfl (hb hby at_88) rfl (feq hc88).2 (by decide) (by decide) ?_
        exact kt
      refine OGo.step (F' := T6.setTop (mkF m 104 #[.val (.int p0), .val (.int p1), .val (.int p2), .val (.int p3), .val (.int p4), .val (.ref b1), .val (.int (1 : Int32)), .val (.int (p0 &&& (3 : Int32))), .val (.int (1 : Int32)), .val (.ref b5), .val (.int (p4 &&& (1 : Int32))), .unset, .unset] [(.ref b5)])) (fun t kt => ?_) ?_
      · show Steps p.tables e below (T6.setTop (mkF m 102 #[.val (.int p0), .val (.int p1), .val (.int p2), .val (.int p3), .val (.int p4), .val (.ref b1), .val (.int (1 : Int32)), .val (.int (p0 &&& (3 : Int32))), .val (.int (1 : Int32)), .val (.ref b5), .val (.int (p4 &&& (1 : Int32))), .unset, .unset] [])) t
        refine XS.aload X6.here hx rfl (hb hby at_102) rfl rfl ?_
        exact kt
      refine OGo.callV X6 hx hZ (y := (⟨"com/example/oddhands/oddhands/simulator/Sample", "isEmpty", "()Z"⟩ : MethodName)) (z := (⟨"com/example/oddhands/oddhands/simulator/Sample", "isEmpty", "()Z"⟩ : MethodName)) hown (own_wd hw 9 rfl) (own_wd hw 10 rfl) (notFace_of_selects (args := #[]) (mvT hZ (own_wd hw 12 rfl))) (own_wd hw 12 rfl) (own_wd hw 11 rfl) (own_wd hw 2 rfl) (own_wd hw 13 rfl) (by decide) (rm3 l Z az hw [] b5 (0 : Int64) h5 n0 (Nat.le_trans Z0 KC5.1) F5_size) (W := 0) (by decide) (by decide) A5 (g := (mkF m 104 #[.val (.int p0), .val (.int p1), .val (.int p2), .val (.int p3), .val (.int p4), .val (.ref b1), .val (.int (1 : Int32)), .val (.int (p0 &&& (3 : Int32))), .val (.int (1 : Int32)), .val (.ref b5), .val (.int (p4 &&& (1 : Int32))), .unset, .unset] [(.ref b5)])) rfl (by rw [hml]; rfl) (argsL := []) (rest := []) (lenOf pd_0_1 rfl) rfl (by show 2 * 0 + _ ≤ _; exact Nat.le_of_eq rfl) (hb hby at_104) rfl e6 (by decide) (by decide) ?_
      rintro _ T11 L11 X11 ⟨hv11, Nq11, e11⟩
      have N11 := Fr.app N6 Nq11
      rw [show (f3 (0 : Int64)) = (1 : Int32) from by decide] at hv11
      subst hv11
      show OGo _ _ _ _ _ _ _ (T11.setTop (mkF m 107 #[.val (.int p0), .val (.int p1), .val (.int p2), .val (.int p3), .val (.int p4), .val (.ref b1), .val (.int (1 : Int32)), .val (.int (p0 &&& (3 : Int32))), .val (.int (1 : Int32)), .val (.ref b5), .val (.int (p4 &&& (1 : Int32))), .unset, .unset] [(.int (1 : Int32))]))
      refine OGo.step (F' := T11.setTop (mkF m 113 #[.val (.int p0), .val (.int p1), .val (.int p2), .val (.int p3), .val (.int p4), .val (.ref b1), .val (.int (1 : Int32)), .val (.int (p0 &&& (3 : Int32))), .val (.int (1 : Int32)), .val (.ref b5), .val (.int (p4 &&& (1 : Int32))), .val (.int (1 : Int32)), .unset] [(.ref b5), (.ref b1)])) (fun t kt => ?_) ?_
      · show Steps p.tables e below (T11.setTop (mkF m 107 #[.val (.int p0), .val (.int p1), .val (.int p2), .val (.int p3), .val (.int p4), .val (.ref b1), .val (.int (1 : Int32)), .val (.int (p0 &&& (3 : Int32))), .val (.int (1 : Int32)), .val (.ref b5), .val (.int (p4 &&& (1 : Int32))), .unset, .unset] [(.int (1 : Int32))])) t
        refine XS.istore X11.here hx rfl (hb hby at_107) rfl (l' := #[.val (.int p0), .val (.int p1), .val (.int p2), .val (.int p3), .val (.int p4), .val (.ref b1), .val (.int (1 : Int32)), .val (.int (p0 &&& (3 : Int32))), .val (.int (1 : Int32)), .val (.ref b5), .val (.int (p4 &&& (1 : Int32))), .val (.int (1 : Int32)), .unset]) rfl ?_
        show Steps p.tables e below (T11.setTop (mkF m 109 #[.val (.int p0), .val (.int p1), .val (.int p2), .val (.int p3), .val (.int p4), .val (.ref b1), .val (.int (1 : Int32)), .val (.int (p0 &&& (3 : Int32))), .val (.int (1 : Int32)), .val (.ref b5), .val (.int (p4 &&& (1 : Int32))), .val (.int (1 : Int32)), .unset] [])) t
        refine XS.aload X11.here hx rfl (hb hby at_109) rfl rfl ?_
        show Steps p.tables e below (T11.setTop (mkF m 111 #[.val (.int p0), .val (.int p1), .val (.int p2), .val (.int p3), .val (.int p4), .val (.ref b1), .val (.int (1 : Int32)), .val (.int (p0 &&& (3 : Int32))), .val (.int (1 : Int32)), .val (.ref b5), .val (.int (p4 &&& (1 : Int32))), .val (.int (1 : Int32)), .unset] [(.ref b1)])) t
        refine XS.aload X11.here hx rfl (hb hby at_111) rfl rfl ?_
        exact kt
      refine OGo.callV X11 hx hZ (y := (⟨"com/example/oddhands/oddhands/simulator/Sample", "add", "(Lcom/example/oddhands/oddhands/simulator/Sample;)V"⟩ : MethodName)) (z := (⟨"com/example/oddhands/oddhands/simulator/Sample", "add", "(Lcom/example/oddhands/oddhands/simulator/Sample;)V"⟩ : MethodName)) hown (own_wd hw 16 rfl) (own_wd hw 17 rfl) (notFace_of_selects (args := #[]) (mvT hZ (own_wd hw 19 rfl))) (own_wd hw 19 rfl) (own_wd hw 18 rfl) (own_wd hw 2 rfl) (own_wd hw 20 rfl) (by decide) (rm4 l Z az hw [] b1 b5 (0 : Int64) (0 : Int64) (0 : Int64) (0 : Int64) (0 : Int64) (0 : Int64) 0 0 h5 n0 (Nat.le_trans Z0 KC5.1) (F1_size.ext E5) (F1_sum.ext E5) (F1_sumOfSquares.ext E5) F5_size F5_sum F5_sumOfSquares own_ok0 own_ok0 (by decide) (by decide) (Ne.symm (Nat.ne_of_lt (Nat.lt_of_lt_of_le A1.lt (Nat.le_of_eq g5.symm)))) (A1.ext E5) gn_b1) (W := 0) (by decide) (by decide) (A1.ext E5) (g := (mkF m 113 #[.val (.int p0), .val (.int p1), .val (.int p2), .val (.int p3), .val (.int p4), .val (.ref b1), .val (.int (1 : Int32)), .val (.int (p0 &&& (3 : Int32))), .val (.int (1 : Int32)), .val (.ref b5), .val (.int (p4 &&& (1 : Int32))), .val (.int (1 : Int32)), .unset] [(.ref b5), (.ref b1)])) rfl (by rw [hml]; rfl) (argsL := [(.ref b5)]) (rest := []) (lenOf pd_0_3 rfl) rfl (by show 2 * 0 + _ ≤ _; exact Nat.le_of_eq rfl) (hb hby at_113) rfl e11 (by decide) (by decide) ?_
      rintro _ T12 L12 X12 ⟨rfl, Nq12, K12, P12_0, P12_1⟩
      have KC12 : Keep h0 T12.heap [] := KC5.trans K12 (allS (Or.inr sz_b1) all0)
      have N12 := Fr.app N11 Nq12
      show OGo _ _ _ _ _ _ _ (T12.setTop (mkF m 116 #[.val (.int p0), .val (.int p1), .val (.int p2), .val (.int p3), .val (.int p4), .val (.ref b1), .val (.int (1 : Int32)), .val (.int (p0 &&& (3 : Int32))), .val (.int (1 : Int32)), .val (.ref b5), .val (.int (p4 &&& (1 : Int32))), .val (.int (1 : Int32)), .unset] []))
      refine OGo.step (F' := T12.setTop (mkF m 118 #[.val (.int p0), .val (.int p1), .val (.int p2), .val (.int p3), .val (.int p4), .val (.ref b1), .val (.int (1 : Int32)), .val (.int (p0 &&& (3 : Int32))), .val (.int (1 : Int32)), .val (.ref b5), .val (.int (p4 &&& (1 : Int32))), .val (.int (1 : Int32)), .unset] [(.ref b1)])) (fun t kt => ?_) ?_
      · show Steps p.tables e below (T12.setTop (mkF m 116 #[.val (.int p0), .val (.int p1), .val (.int p2), .val (.int p3), .val (.int p4), .val (.ref b1), .val (.int (1 : Int32)), .val (.int (p0 &&& (3 : Int32))), .val (.int (1 : Int32)), .val (.ref b5), .val (.int (p4 &&& (1 : Int32))), .val (.int (1 : Int32)), .unset] [])) t
        refine XS.aload X12.here hx rfl (hb hby at_116) rfl rfl ?_
        exact kt
      refine OGo.callV X12 hx hZ (y := (⟨"com/example/oddhands/oddhands/simulator/Sample", "isEmpty", "()Z"⟩ : MethodName)) (z := (⟨"com/example/oddhands/oddhands/simulator/Sample", "isEmpty", "()Z"⟩ : MethodName)) hown (own_wd hw 9 rfl) (own_wd hw 10 rfl) (notFace_of_selects (args := #[]) (mvT hZ (own_wd hw 12 rfl))) (own_wd hw 12 rfl) (own_wd hw 11 rfl) (own_wd hw 2 rfl) (own_wd hw 13 rfl) (by decide) (rm3 l Z az hw [] b1 (f5 (0 : Int64) (0 : Int64)) T12.heap n0 (Nat.le_trans Z0 KC12.1) P12_1) (W := 0) (by decide) (by decide) P12_0 (g := (mkF m 118 #[.val (.int p0), .val (.int p1), .val (.int p2), .val (.int p3), .val (.int p4), .val (.ref b1), .val (.int (1 : Int32)), .val (.int (p0 &&& (3 : Int32))), .val (.int (1 : Int32)), .val (.ref b5), .val (.int (p4 &&& (1 : Int32))), .val (.int (1 : Int32)), .unset] [(.ref b1)])) rfl (by rw [hml]; rfl) (argsL := []) (rest := []) (lenOf pd_0_1 rfl) rfl (by show 2 * 0 + _ ≤ _; exact Nat.le_of_eq rfl) (hb hby at_118) rfl rfl (by decide) (by decide) ?_
      rintro _ T13 L13 X13 ⟨hv13, Nq13, e13⟩
      have N13 := Fr.app N12 Nq13
      rw [show (f3 (f5 (0 : Int64) (0 : Int64))) = (1 : Int32) from by decide] at hv13
      subst hv13
      show OGo _ _ _ _ _ _ _ (T13.setTop (mkF m 121 #[.val (.int p0), .val (.int p1), .val (.int p2), .val (.int p3), .val (.int p4), .val (.ref b1), .val (.int (1 : Int32)), .val (.int (p0 &&& (3 : Int32))), .val (.int (1 : Int32)), .val (.ref b5), .val (.int (p4 &&& (1 : Int32))), .val (.int (1 : Int32)), .unset] [(.int (1 : Int32))]))
      refine OGo.step (F' := T13.setTop (mkF m 183 #[.val (.int p0), .val (.int p1), .val (.int p2), .val (.int p3), .val (.int p4), .val (.ref b1), .val (.int (1 : Int32)), .val (.int (p0 &&& (3 : Int32))), .val (.int (1 : Int32)), .val (.ref b5), .val (.int (p4 &&& (1 : Int32))), .val (.int (1 : Int32)), .val (.int (1 : Int32))] [(.int (1 : Int32))])) (fun t kt => ?_) ?_
      · show Steps p.tables e below (T13.setTop (mkF m 121 #[.val (.int p0), .val (.int p1), .val (.int p2), .val (.int p3), .val (.int p4), .val (.ref b1), .val (.int (1 : Int32)), .val (.int (p0 &&& (3 : Int32))), .val (.int (1 : Int32)), .val (.ref b5), .val (.int (p4 &&& (1 : Int32))), .val (.int (1 : Int32)), .unset] [(.int (1 : Int32))])) t
        refine XS.istore X13.here hx rfl (hb hby at_121) rfl (l' := #[.val (.int p0), .val (.int p1), .val (.int p2), .val (.int p3), .val (.int p4), .val (.ref b1), .val (.int (1 : Int32)), .val (.int (p0 &&& (3 : Int32))), .val (.int (1 : Int32)), .val (.ref b5), .val (.int (p4 &&& (1 : Int32))), .val (.int (1 : Int32)), .val (.int (1 : Int32))]) rfl ?_
        show Steps p.tables e below (T13.setTop (mkF m 123 #[.val (.int p0), .val (.int p1), .val (.int p2), .val (.int p3), .val (.int p4), .val (.ref b1), .val (.int (1 : Int32)), .val (.int (p0 &&& (3 : Int32))), .val (.int (1 : Int32)), .val (.ref b5), .val (.int (p4 &&& (1 : Int32))), .val (.int (1 : Int32)), .val (.int (1 : Int32))] [])) t
        refine XS.iload X13.here hx rfl (hb hby at_123) rfl ?_
        show Steps p.tables e below (T13.setTop (mkF m 125 #[.val (.int p0), .val (.int p1), .val (.int p2), .val (.int p3), .val (.int p4), .val (.ref b1), .val (.int (1 : Int32)), .val (.int (p0 &&& (3 : Int32))), .val (.int (1 : Int32)), .val (.ref b5), .val (.int (p4 &&& (1 : Int32))), .val (.int (1 : Int32)), .val (.int (1 : Int32))] [(.int (1 : Int32))])) t
        refine XS.ifNo X13.here hx rfl (hb hby at_125) rfl ((if0 _ _).trans (feq (by decide : ¬ ((1 : Int32) = (0 : Int32)))).1) ?_
        show Steps p.tables e below (T13.setTop (mkF m 128 #[.val (.int p0), .val (.int p1), .val (.int p2), .val (.int p3), .val (.int p4), .val (.ref b1), .val (.int (1 : Int32)), .val (.int (p0 &&& (3 : Int32))), .val (.int (1 : Int32)), .val (.ref b5), .val (.int (p4 &&& (1 : Int32))), .val (.int (1 : Int32)), .val (.int (1 : Int32))] [])) t
        refine XS.iload X13.here hx rfl (hb hby at_128) rfl ?_
        show Steps p.tables e below (T13.setTop (mkF m 130 #[.val (.int p0), .val (.int p1), .val (.int p2), .val (.int p3), .val (.int p4), .val (.ref b1), .val (.int (1 : Int32)), .val (.int (p0 &&& (3 : Int32))), .val (.int (1 : Int32)), .val (.ref b5), .val (.int (p4 &&& (1 : Int32))), .val (.int (1 : Int32)), .val (.int (1 : Int32))] [(.int (1 : Int32))])) t
        refine XS.iload X13.here hx rfl (hb hby at_130) rfl ?_
        show Steps p.tables e below (T13.setTop (mkF m 132 #[.val (.int p0), .val (.int p1), .val (.int p2), .val (.int p3), .val (.int p4), .val (.ref b1), .val (.int (1 : Int32)), .val (.int (p0 &&& (3 : Int32))), .val (.int (1 : Int32)), .val (.ref b5), .val (.int (p4 &&& (1 : Int32))), .val (.int (1 : Int32)), .val (.int (1 : Int32))] [(.int (p0 &&& (3 : Int32))), (.int (1 : Int32))])) t
        refine XS.ifNo X13.here hx rfl (hb hby at_132) rfl ((if0 _ _).trans (teq (own_k0 _ hc24)).2) ?_
        show Steps p.tables e below (T13.setTop (mkF m 135 #[.val (.int p0), .val (.int p1), .val (.int p2), .val (.int p3), .val (.int p4), .val (.ref b1), .val (.int (1 : Int32)), .val (.int (p0 &&& (3 : Int32))), .val (.int (1 : Int32)), .val (.ref b5), .val (.int (p4 &&& (1 : Int32))), .val (.int (1 : Int32)), .val (.int (1 : Int32))] [(.int (1 : Int32))])) t
        refine XS.iconst X13.here hx rfl (hb hby at_135) ?_
        show Steps p.tables e below (T13.setTop (mkF m 136 #[.val (.int p0), .val (.int p1), .val (.int p2), .val (.int p3), .val (.int p4), .val (.ref b1), .val (.int (1 : Int32)), .val (.int (p0 &&& (3 : Int32))), .val (.int (1 : Int32)), .val (.ref b5), .val (.int (p4 &&& (1 : Int32))), .val (.int (1 : Int32)), .val (.int (1 : Int32))] [(.int (1 : Int32)), (.int (1 : Int32))])) t
        refine XS.goto X13.here hx rfl (pc0 := 136) (pc' := 140) rfl (hb hby at_136) (by decide) (by decide) ?_
        show Steps p.tables e below (T13.setTop (mkF m 140 #[.val (.int p0), .val (.int p1), .val (.int p2), .val (.int p3), .val (.int p4), .val (.ref b1), .val (.int (1 : Int32)), .val (.int (p0 &&& (3 : Int32))), .val (.int (1 : Int32)), .val (.ref b5), .val (.int (p4 &&& (1 : Int32))), .val (.int (1 : Int32)), .val (.int (1 : Int32))] [(.int (1 : Int32)), (.int (1 : Int32))])) t
        refine XS.icmpNo X13.here hx rfl (hb hby at_140) rfl (teq (by decide : (1 : Int32) = (1 : Int32))).2 ?_
        show Steps p.tables e below (T13.setTop (mkF m 143 #[.val (.int p0), .val (.int p1), .val (.int p2), .val (.int p3), .val (.int p4), .val (.ref b1), .val (.int (1 : Int32)), .val (.int (p0 &&& (3 : Int32))), .val (.int (1 : Int32)), .val (.ref b5), .val (.int (p4 &&& (1 : Int32))), .val (.int (1 : Int32)), .val (.int (1 : Int32))] [])) t
        refine XS.iload X13.here hx rfl (hb hby at_143) rfl ?_
        show Steps p.tables e below (T13.setTop (mkF m 145 #[.val (.int p0), .val (.int p1), .val (.int p2), .val (.int p3), .val (.int p4), .val (.ref b1), .val (.int (1 : Int32)), .val (.int (p0 &&& (3 : Int32))), .val (.int (1 : Int32)), .val (.ref b5), .val (.int (p4 &&& (1 : Int32))), .val (.int (1 : Int32)), .val (.int (1 : Int32))] [(.int (1 : Int32))])) t
        refine XS.iload X13.here hx rfl (hb hby at_145) rfl ?_
        show Steps p.tables e below (T13.setTop (mkF m 147 #[.val (.int p0), .val (.int p1), .val (.int p2), .val (.int p3), .val (.int p4), .val (.ref b1), .val (.int (1 : Int32)), .val (.int (p0 &&& (3 : Int32))), .val (.int (1 : Int32)), .val (.ref b5), .val (.int (p4 &&& (1 : Int32))), .val (.int (1 : Int32)), .val (.int (1 : Int32))] [(.int (p4 &&& (1 : Int32))), (.int (1 : Int32))])) t
        refine XS.ifNo X13.here hx rfl (hb hby at_147) rfl ((if0 _ _).trans (teq (own_j0 _ hc88)).2) ?_
        show Steps p.tables e below (T13.setTop (mkF m 150 #[.val (.int p0), .val (.int p1), .val (.int p2), .val (.int p3), .val (.int p4), .val (.ref b1), .val (.int (1 : Int32)), .val (.int (p0 &&& (3 : Int32))), .val (.int (1 : Int32)), .val (.ref b5), .val (.int (p4 &&& (1 : Int32))), .val (.int (1 : Int32)), .val (.int (1 : Int32))] [(.int (1 : Int32))])) t
        refine XS.iconst X13.here hx rfl (hb hby at_150) ?_
        show Steps p.tables e below (T13.setTop (mkF m 151 #[.val (.int p0), .val (.int p1), .val (.int p2), .val (.int p3), .val (.int p4), .val (.ref b1), .val (.int (1 : Int32)), .val (.int (p0 &&& (3 : Int32))), .val (.int (1 : Int32)), .val (.ref b5), .val (.int (p4 &&& (1 : Int32))), .val (.int (1 : Int32)), .val (.int (1 : Int32))] [(.int (1 : Int32)), (.int (1 : Int32))])) t
        refine XS.goto X13.here hx rfl (pc0 := 151) (pc' := 155) rfl (hb hby at_151) (by decide) (by decide) ?_
        show Steps p.tables e below (T13.setTop (mkF m 155 #[.val (.int p0), .val (.int p1), .val (.int p2), .val (.int p3), .val (.int p4), .val (.ref b1), .val (.int (1 : Int32)), .val (.int (p0 &&& (3 : Int32))), .val (.int (1 : Int32)), .val (.ref b5), .val (.int (p4 &&& (1 : Int32))), .val (.int (1 : Int32)), .val (.int (1 : Int32))] [(.int (1 : Int32)), (.int (1 : Int32))])) t
        refine XS.icmpNo X13.here hx rfl (hb hby at_155) rfl (teq (by decide : (1 : Int32) = (1 : Int32))).2 ?_
        show Steps p.tables e below (T13.setTop (mkF m 158 #[.val (.int p0), .val (.int p1), .val (.int p2), .val (.int p3), .val (.int p4), .val (.ref b1), .val (.int (1 : Int32)), .val (.int (p0 &&& (3 : Int32))), .val (.int (1 : Int32)), .val (.ref b5), .val (.int (p4 &&& (1 : Int32))), .val (.int (1 : Int32)), .val (.int (1 : Int32))] [])) t
        refine XS.iload X13.here hx rfl (hb hby at_158) rfl ?_
        show Steps p.tables e below (T13.setTop (mkF m 160 #[.val (.int p0), .val (.int p1), .val (.int p2), .val (.int p3), .val (.int p4), .val (.ref b1), .val (.int (1 : Int32)), .val (.int (p0 &&& (3 : Int32))), .val (.int (1 : Int32)), .val (.ref b5), .val (.int (p4 &&& (1 : Int32))), .val (.int (1 : Int32)), .val (.int (1 : Int32))] [(.int (1 : Int32))])) t
        refine XS.iload X13.here hx rfl (hb hby at_160) rfl ?_
        show Steps p.tables e below (T13.setTop (mkF m 162 #[.val (.int p0), .val (.int p1), .val (.int p2), .val (.int p3), .val (.int p4), .val (.ref b1), .val (.int (1 : Int32)), .val (.int (p0 &&& (3 : Int32))), .val (.int (1 : Int32)), .val (.ref b5), .val (.int (p4 &&& (1 : Int32))), .val (.int (1 : Int32)), .val (.int (1 : Int32))] [(.int (p0 &&& (3 : Int32))), (.int (1 : Int32))])) t
        refine XS.ifNo X13.here hx rfl (hb hby at_162) rfl ((if0 _ _).trans (teq (own_k0 _ hc24)).2) ?_
        show Steps p.tables e below (T13.setTop (mkF m 165 #[.val (.int p0), .val (.int p1), .val (.int p2), .val (.int p3), .val (.int p4), .val (.ref b1), .val (.int (1 : Int32)), .val (.int (p0 &&& (3 : Int32))), .val (.int (1 : Int32)), .val (.ref b5), .val (.int (p4 &&& (1 : Int32))), .val (.int (1 : Int32)), .val (.int (1 : Int32))] [(.int (1 : Int32))])) t
        refine XS.iload X13.here hx rfl (hb hby at_165) rfl ?_
        show Steps p.tables e below (T13.setTop (mkF m 167 #[.val (.int p0), .val (.int p1), .val (.int p2), .val (.int p3), .val (.int p4), .val (.ref b1), .val (.int (1 : Int32)), .val (.int (p0 &&& (3 : Int32))), .val (.int (1 : Int32)), .val (.ref b5), .val (.int (p4 &&& (1 : Int32))), .val (.int (1 : Int32)), .val (.int (1 : Int32))] [(.int (p4 &&& (1 : Int32))), (.int (1 : Int32))])) t
        refine XS.ifNo X13.here hx rfl (hb hby at_167) rfl ((if0 _ _).trans (teq (own_j0 _ hc88)).2) ?_
        show Steps p.tables e below (T13.setTop (mkF m 170 #[.val (.int p0), .val (.int p1), .val (.int p2), .val (.int p3), .val (.int p4), .val (.ref b1), .val (.int (1 : Int32)), .val (.int (p0 &&& (3 : Int32))), .val (.int (1 : Int32)), .val (.ref b5), .val (.int (p4 &&& (1 : Int32))), .val (.int (1 : Int32)), .val (.int (1 : Int32))] [(.int (1 : Int32))])) t
        refine XS.iconst X13.here hx rfl (hb hby at_170) ?_
        show Steps p.tables e below (T13.setTop (mkF m 171 #[.val (.int p0), .val (.int p1), .val (.int p2), .val (.int p3), .val (.int p4), .val (.ref b1), .val (.int (1 : Int32)), .val (.int (p0 &&& (3 : Int32))), .val (.int (1 : Int32)), .val (.ref b5), .val (.int (p4 &&& (1 : Int32))), .val (.int (1 : Int32)), .val (.int (1 : Int32))] [(.int (1 : Int32)), (.int (1 : Int32))])) t
        refine XS.goto X13.here hx rfl (pc0 := 171) (pc' := 175) rfl (hb hby at_171) (by decide) (by decide) ?_
        show Steps p.tables e below (T13.setTop (mkF m 175 #[.val (.int p0), .val (.int p1), .val (.int p2), .val (.int p3), .val (.int p4), .val (.ref b1), .val (.int (1 : Int32)), .val (.int (p0 &&& (3 : Int32))), .val (.int (1 : Int32)), .val (.ref b5), .val (.int (p4 &&& (1 : Int32))), .val (.int (1 : Int32)), .val (.int (1 : Int32))] [(.int (1 : Int32)), (.int (1 : Int32))])) t
        refine XS.icmpNo X13.here hx rfl (hb hby at_175) rfl (teq (by decide : (1 : Int32) = (1 : Int32))).2 ?_
        show Steps p.tables e below (T13.setTop (mkF m 178 #[.val (.int p0), .val (.int p1), .val (.int p2), .val (.int p3), .val (.int p4), .val (.ref b1), .val (.int (1 : Int32)), .val (.int (p0 &&& (3 : Int32))), .val (.int (1 : Int32)), .val (.ref b5), .val (.int (p4 &&& (1 : Int32))), .val (.int (1 : Int32)), .val (.int (1 : Int32))] [])) t
        refine XS.iconst X13.here hx rfl (hb hby at_178) ?_
        show Steps p.tables e below (T13.setTop (mkF m 179 #[.val (.int p0), .val (.int p1), .val (.int p2), .val (.int p3), .val (.int p4), .val (.ref b1), .val (.int (1 : Int32)), .val (.int (p0 &&& (3 : Int32))), .val (.int (1 : Int32)), .val (.ref b5), .val (.int (p4 &&& (1 : Int32))), .val (.int (1 : Int32)), .val (.int (1 : Int32))] [(.int (1 : Int32))])) t
        refine XS.goto X13.here hx rfl (pc0 := 179) (pc' := 183) rfl (hb hby at_179) (by decide) (by decide) ?_
        exact kt
      refine OGo.retZ X13 hx hlk (t := .boolean) (z' := (1 : Int32)) hret (by simp) (hb hby at_183) rfl ?_ (by decide) (by decide)
      show Q0 Z p0 p1 p2 p3 p4 h0 n0 _ T13.heap _
      rw [e13]
      exact ⟨(by rw [f0, if_pos hc24, if_neg hc88]), N13, KC12⟩
  · refine OGo.step (F' := T3.setTop (mkF m 27 #[.val (.int p0), .val (.int p1), .val (.int p2), .val (.int p3), .val (.int p4), .val (.ref b1), .val (.int (1 : Int32)), .val (.int (p0 &&& (3 : Int32))), .unset, .unset, .unset, .unset, .unset] [])) (fun t kt => ?_) ?_
    · show Steps p.tables e below (T3.setTop (mkF m 24 #[.val (.int p0), .val (.int p1), .val (.int p2), .val (.int p3), .val (.int p4), .val (.ref b1), .val (.int (1 : Int32)), .val (.int (p0 &&& (3 : Int32))), .unset, .unset, .unset, .unset, .unset] [(.int (1 : Int32)), (.int (p0 &&& (3 : Int32)))])) t
      refine XS.icmpNo X3.here hx rfl (hb hby at_24) rfl (flt hc24).1 ?_
      exact kt
    refine OGo.step (F' := T3.setTop (mkF m 32 #[.val (.int p0), .val (.int p1), .val (.int p2), .val (.int p3), .val (.int p4), .val (.ref b1), .val (.int (1 : Int32)), .val (.int (p0 &&& (3 : Int32))), .unset, .unset, .unset, .unset, .unset] [(.long ((p1.toInt16.toInt32).toInt64)), (.ref b1)])) (fun t kt => ?_) ?_
    · show Steps p.tables e below (T3.setTop (mkF m 27 #[.val (.int p0), .val (.int p1), .val (.int p2), .val (.int p3), .val (.int p4), .val (.ref b1), .val (.int (1 : Int32)), .val (.int (p0 &&& (3 : Int32))), .unset, .unset, .unset, .unset, .unset] [])) t
      refine XS.aload X3.here hx rfl (hb hby at_27) rfl rfl ?_
      show Steps p.tables e below (T3.setTop (mkF m 29 #[.val (.int p0), .val (.int p1), .val (.int p2), .val (.int p3), .val (.int p4), .val (.ref b1), .val (.int (1 : Int32)), .val (.int (p0 &&& (3 : Int32))), .unset, .unset, .unset, .unset, .unset] [(.ref b1)])) t
      refine XS.iloadN X3.here hx rfl (hb hby at_29) rfl ?_
      show Steps p.tables e below (T3.setTop (mkF m 30 #[.val (.int p0), .val (.int p1), .val (.int p2), .val (.int p3), .val (.int p4), .val (.ref b1), .val (.int (1 : Int32)), .val (.int (p0 &&& (3 : Int32))), .unset, .unset, .unset, .unset, .unset] [(.int p1), (.ref b1)])) t
      refine XS.i2s X3.here hx rfl (hb hby at_30) rfl ?_
      show Steps p.tables e below (T3.setTop (mkF m 31 #[.val (.int p0), .val (.int p1), .val (.int p2), .val (.int p3), .val (.int p4), .val (.ref b1), .val (.int (1 : Int32)), .val (.int (p0 &&& (3 : Int32))), .unset, .unset, .unset, .unset, .unset] [(.int (p1.toInt16.toInt32)), (.ref b1)])) t
      refine XS.i2l X3.here hx rfl (hb hby at_31) rfl ?_
      exact kt
    refine OGo.callV X3 hx hZ (y := (⟨"com/example/oddhands/oddhands/simulator/Sample", "add", "(J)V"⟩ : MethodName)) (z := (⟨"com/example/oddhands/oddhands/simulator/Sample", "add", "(J)V"⟩ : MethodName)) hown (own_wd hw 29 rfl) (own_wd hw 30 rfl) (notFace_of_selects (args := #[]) (mvT hZ (own_wd hw 32 rfl))) (own_wd hw 32 rfl) (own_wd hw 31 rfl) (own_wd hw 2 rfl) (own_wd hw 33 rfl) (by decide) (rm6 l Z az hw [] b1 ((p1.toInt16.toInt32).toInt64) (0 : Int64) (0 : Int64) (0 : Int64) 0 h1 n0 (Nat.le_trans Z0 KC1.1) F1_size F1_sum F1_sumOfSquares own_ok0 (by decide) (own_sh16 _) A1 gn_b1) (W := 0) (by decide) (by decide) A1 (g := (mkF m 32 #[.val (.int p0), .val (.int p1), .val (.int p2), .val (.int p3), .val (.int p4), .val (.ref b1), .val (.int (1 : Int32)), .val (.int (p0 &&& (3 : Int32))), .unset, .unset, .unset, .unset, .unset] [(.long ((p1.toInt16.toInt32).toInt64)), (.ref b1)])) rfl (by rw [hml]; rfl) (argsL := [(.long ((p1.toInt16.toInt32).toInt64))]) (rest := []) (lenOf pd_0_2 rfl) rfl (by show 2 * 0 + _ ≤ _; exact Nat.le_of_eq rfl) (hb hby at_32) rfl e3 (by decide) (by decide) ?_
    rintro _ T14 L14 X14 ⟨rfl, Nq14, K14, P14_0, P14_1, P14_2, P14_3⟩
    have KC14 : Keep h0 T14.heap [] := KC1.trans K14 (allS (Or.inr sz_b1) all0)
    have N14 := Fr.app N3 Nq14
    show OGo _ _ _ _ _ _ _ (T14.setTop (mkF m 35 #[.val (.int p0), .val (.int p1), .val (.int p2), .val (.int p3), .val (.int p4), .val (.ref b1), .val (.int (1 : Int32)), .val (.int (p0 &&& (3 : Int32))), .unset, .unset, .unset, .unset, .unset] []))
    refine OGo.step (F' := T14.setTop (mkF m 38 #[.val (.int p0), .val (.int p1), .val (.int p2), .val (.int p3), .val (.int p4), .val (.ref b1), .val (.int (1 : Int32)), .val (.int (p0 &&& (3 : Int32))), .unset, .unset, .unset, .unset, .unset] [(.int (2 : Int32)), (.int (p0 &&& (3 : Int32)))])) (fun t kt => ?_) ?_
    · show Steps p.tables e below (T14.setTop (mkF m 35 #[.val (.int p0), .val (.int p1), .val (.int p2), .val (.int p3), .val (.int p4), .val (.ref b1), .val (.int (1 : Int32)), .val (.int (p0 &&& (3 : Int32))), .unset, .unset, .unset, .unset, .unset] [])) t
      refine XS.iload X14.here hx rfl (hb hby at_35) rfl ?_
      show Steps p.tables e below (T14.setTop (mkF m 37 #[.val (.int p0), .val (.int p1), .val (.int p2), .val (.int p3), .val (.int p4), .val (.ref b1), .val (.int (1 : Int32)), .val (.int (p0 &&& (3 : Int32))), .unset, .unset, .unset, .unset, .unset] [(.int (p0 &&& (3 : Int32)))])) t
      refine XS.iconst X14.here hx rfl (hb hby at_37) ?_
      exact kt
    by_cases hc38 : (p0 &&& (3 : Int32)) < (2 : Int32)
    · refine OGo.step (F' := T14.setTop (mkF m 49 #[.val (.int p0), .val (.int p1), .val (.int p2), .val (.int p3), .val (.int p4), .val (.ref b1), .val (.int (1 : Int32)), .val (.int (p0 &&& (3 : Int32))), .unset, .unset, .unset, .unset, .unset] [])) (fun t kt => ?_) ?_
      · show Steps p.tables e below (T14.setTop (mkF m 38 #[.val (.int p0), .val (.int p1), .val (.int p2), .val (.int p3), .val (.int p4), .val (.ref b1), .val (.int (1 : Int32)), .val (.int (p0 &&& (3 : Int32))), .unset, .unset, .unset, .unset, .unset] [(.int (2 : Int32)), (.int (p0 &&& (3 : Int32)))])) t
        refine XS.icmpYes X14.here hx rfl (pc0 := 38) (pc' := 49) rfl (hb hby at_38) rfl (tlt hc38).1 (by decide) (by decide) ?_
        exact kt
      refine OGo.step (F' := T14.setTop (mkF m 65 #[.val (.int p0), .val (.int p1), .val (.int p2), .val (.int p3), .val (.int p4), .val (.ref b1), .val (.int (1 : Int32)), .val (.int (p0 &&& (3 : Int32))), .unset, .unset, .unset, .unset, .unset] [(.ref b1)])) (fun t kt => ?_) ?_
      · show Steps p.tables e below (T14.setTop (mkF m 49 #[.val (.int p0), .val (.int p1), .val (.int p2), .val (.int p3), .val (.int p4), .val (.ref b1), .val (.int (1 : Int32)), .val (.int (p0 &&& (3 : Int32))), .unset, .unset, .unset, .unset, .unset] [])) t
        refine XS.iload X14.here hx rfl (hb hby at_49) rfl ?_
        show Steps p.tables e below (T14.setTop (mkF m 51 #[.val (.int p0), .val (.int p1), .val (.int p2), .val (.int p3), .val (.int p4), .val (.ref b1), .val (.int (1 : Int32)), .val (.int (p0 &&& (3 : Int32))), .unset, .unset, .unset, .unset, .unset] [(.int (p0 &&& (3 : Int32)))])) t
        refine XS.iconst X14.here hx rfl (hb hby at_51) ?_
        show Steps p.tables e below (T14.setTop (mkF m 52 #[.val (.int p0), .val (.int p1), .val (.int p2), .val (.int p3), .val (.int p4), .val (.ref b1), .val (.int (1 : Int32)), .val (.int (p0 &&& (3 : Int32))), .unset, .unset, .unset, .unset, .unset] [(.int (3 : Int32)), (.int (p0 &&& (3 : Int32)))])) t
        refine XS.icmpYes X14.here hx rfl (pc0 := 52) (pc' := 63) rfl (hb hby at_52) rfl (tlt (own_up hc38 (by decide))).1 (by decide) (by decide) ?_
        show Steps p.tables e below (T14.setTop (mkF m 63 #[.val (.int p0), .val (.int p1), .val (.int p2), .val (.int p3), .val (.int p4), .val (.ref b1), .val (.int (1 : Int32)), .val (.int (p0 &&& (3 : Int32))), .unset, .unset, .unset, .unset, .unset] [])) t
        refine XS.aload X14.here hx rfl (hb hby at_63) rfl rfl ?_
        exact kt
      refine OGo.callV X14 hx hZ (y := (⟨"com/example/oddhands/oddhands/simulator/Sample", "isEmpty", "()Z"⟩ : MethodName)) (z := (⟨"com/example/oddhands/oddhands/simulator/Sample", "isEmpty", "()Z"⟩ : MethodName)) hown (own_wd hw 9 rfl) (own_wd hw 10 rfl) (notFace_of_selects (args := #[]) (mvT hZ (own_wd hw 12 rfl))) (own_wd hw 12 rfl) (own_wd hw 11 rfl) (own_wd hw 2 rfl) (own_wd hw 13 rfl) (by decide) (rm3 l Z az hw [] b1 (f7 (0 : Int64)) T14.heap n0 (Nat.le_trans Z0 KC14.1) P14_1) (W := 0) (by decide) (by decide) P14_0 (g := (mkF m 65 #[.val (.int p0), .val (.int p1), .val (.int p2), .val (.int p3), .val (.int p4), .val (.ref b1), .val (.int (1 : Int32)), .val (.int (p0 &&& (3 : Int32))), .unset, .unset, .unset, .unset, .unset] [(.ref b1)])) rfl (by rw [hml]; rfl) (argsL := []) (rest := []) (lenOf pd_0_1 rfl) rfl (by show 2 * 0 + _ ≤ _; exact Nat.le_of_eq rfl) (hb hby at_65) rfl rfl (by decide) (by decide) ?_
      rintro _ T15 L15 X15 ⟨hv15, Nq15, e15⟩
      have N15 := Fr.app N14 Nq15
      rw [show (f3 (f7 (0 : Int64))) = (0 : Int32) from by decide] at hv15
      subst hv15
      show OGo _ _ _ _ _ _ _ (T15.setTop (mkF m 68 #[.val (.int p0), .val (.int p1), .val (.int p2), .val (.int p3), .val (.int p4), .val (.ref b1), .val (.int (1 : Int32)), .val (.int (p0 &&& (3 : Int32))), .unset, .unset, .unset, .unset, .unset] [(.int (0 : Int32))]))
      refine OGo.step (F' := T15.setTop (mkF m 70 #[.val (.int p0), .val (.int p1), .val (.int p2), .val (.int p3), .val (.int p4), .val (.ref b1), .val (.int (1 : Int32)), .val (.int (p0 &&& (3 : Int32))), .val (.int (0 : Int32)), .unset, .unset, .unset, .unset] [])) (fun t kt => ?_) ?_
      · show Steps p.tables e below (T15.setTop (mkF m 68 #[.val (.int p0), .val (.int p1), .val (.int p2), .val (.int p3), .val (.int p4), .val (.ref b1), .val (.int (1 : Int32)), .val (.int (p0 &&& (3 : Int32))), .unset, .unset, .unset, .unset, .unset] [(.int (0 : Int32))])) t
        refine XS.istore X15.here hx rfl (hb hby at_68) rfl (l' := #[.val (.int p0), .val (.int p1), .val (.int p2), .val (.int p3), .val (.int p4), .val (.ref b1), .val (.int (1 : Int32)), .val (.int (p0 &&& (3 : Int32))), .val (.int (0 : Int32)), .unset, .unset, .unset, .unset]) rfl ?_
        exact kt
      obtain ⟨T16, h16, X16, e16, E16, A16, D16, -, st16⟩ := newO X15 hx hZ hown (own_wd hw 0 rfl) (own_wd hw 1 rfl) (own_wd hw 2 rfl) e15 (g := (mkF m 70 #[.val (.int p0), .val (.int p1), .val (.int p2), .val (.int p3), .val (.int p4), .val (.ref b1), .val (.int (1 : Int32)), .val (.int (p0 &&& (3 : Int32))), .val (.int (0 : Int32)), .unset, .unset, .unset, .unset] [])) rfl (hb hby at_70) (by decide) (by decide)
      obtain ⟨b16, g16⟩ : ∃ z, z = T14.heap.size := ⟨_, rfl⟩
      rw [← g16] at A16 D16 st16
      have sz_b16 : h0.size ≤ b16 := Nat.le_trans KC14.1 (Nat.le_of_eq g16.symm)
      have gn_b16 : n0 ≤ b16 := Nat.le_trans Z0 sz_b16
      have KC16 : Keep h0 h16 [] := KC14.ext E16
      have F16_size : Fld Z h16 b16 "com/example/oddhands/oddhands/simulator/Sample" "size" "J" (.long (0 : Int64)) := D16 (Or.inl (own_wd hw 15 rfl)) (ty := .long) (by decide)
      have F16_sum : Fld Z h16 b16 "com/example/oddhands/oddhands/simulator/Sample" "sum" "J" (.long (0 : Int64)) := D16 (Or.inl (own_wd hw 26 rfl)) (ty := .long) (by decide)
      have F16_sumOfSquares : Fld Z h16 b16 "com/example/oddhands/oddhands/simulator/Sample" "sumOfSquares" "J" (.long (0 : Int64)) := D16 (Or.inl (own_wd hw 28 rfl)) (ty := .long) (by decide)
      refine OGo.step st16 ?_
      show OGo _ _ _ _ _ _ _ (T16.setTop (mkF m 73 #[.val (.int p0), .val (.int p1), .val (.int p2), .val (.int p3), .val (.int p4), .val (.ref b1), .val (.int (1 : Int32)), .val (.int (p0 &&& (3 : Int32))), .val (.int (0 : Int32)), .unset, .unset, .unset, .unset] [(.ref b16)]))
      refine OGo.step (F' := T16.setTop (mkF m 74 #[.val (.int p0), .val (.int p1), .val (.int p2), .val (.int p3), .val (.int p4), .val (.ref b1), .val (.int (1 : Int32)), .val (.int (p0 &&& (3 : Int32))), .val (.int (0 : Int32)), .unset, .unset, .unset, .unset] [(.ref b16), (.ref b16)])) (fun t kt => ?_) ?_
      · show Steps p.tables e below (T16.setTop (mkF m 73 #[.val (.int p0), .val (.int p1), .val (.int p2), .val (.int p3), .val (.int p4), .val (.ref b1), .val (.int (1 : Int32)), .val (.int (p0 &&& (3 : Int32))), .val (.int (0 : Int32)), .unset, .unset, .unset, .unset] [(.ref b16)])) t
        refine XS.dup X16.here hx rfl (hb hby at_73) rfl rfl ?_
        exact kt
      refine OGo.callC X16 hx hZ (y := (⟨"com/example/oddhands/oddhands/simulator/Sample", "<init>", "()V"⟩ : MethodName)) rfl hown (own_wd hw 3 rfl) (own_wd hw 4 rfl) (own_wd hw 2 rfl) (own_wd hw 5 rfl) (by decide) (rm1 l Z az hw [] b16 h16 n0 (Nat.le_trans Z0 KC16.1)) (W := 1) (by decide) (by decide) (b := b16) (g := (mkF m 74 #[.val (.int p0), .val (.int p1), .val (.int p2), .val (.int p3), .val (.int p4), .val (.ref b1), .val (.int (1 : Int32)), .val (.int (p0 &&& (3 : Int32))), .val (.int (0 : Int32)), .unset, .unset, .unset, .unset] [(.ref b16), (.ref b16)])) rfl (by rw [hml]; rfl) (argsL := []) (rest := [(.ref b16)]) (lenOf pd_0_0 rfl) rfl (by show 2 * 0 + _ ≤ _; exact Nat.le_of_eq rfl) (hb hby at_74) rfl e16 (by decide) (by decide) ?_
      rintro _ T17 L17 X17 ⟨rfl, Nq17, e17⟩
      have N17 := Fr.app N15 Nq17
      show OGo _ _ _ _ _ _ _ (T17.setTop (mkF m 77 #[.val (.int p0), .val (.int p1), .val (.int p2), .val (.int p3), .val (.int p4), .val (.ref b1), .val (.int (1 : Int32)), .val (.int (p0 &&& (3 : Int32))), .val (.int (0 : Int32)), .unset, .unset, .unset, .unset] [(.ref b16)]))
      refine OGo.step (F' := T17.setTop (mkF m 88 #[.val (.int p0), .val (.int p1), .val (.int p2), .val (.int p3), .val (.int p4), .val (.ref b1), .val (.int (1 : Int32)), .val (.int (p0 &&& (3 : Int32))), .val (.int (0 : Int32)), .val (.ref b16), .val (.int (p4 &&& (1 : Int32))), .unset, .unset] [(.int (1 : Int32)), (.int (p4 &&& (1 : Int32)))])) (fun t kt => ?_) ?_
      · show Steps p.tables e below (T17.setTop (mkF m 77 #[.val (.int p0), .val (.int p1), .val (.int p2), .val (.int p3), .val (.int p4), .val (.ref b1), .val (.int (1 : Int32)), .val (.int (p0 &&& (3 : Int32))), .val (.int (0 : Int32)), .unset, .unset, .unset, .unset] [(.ref b16)])) t
        refine XS.astore X17.here hx rfl (hb hby at_77) rfl rfl (l' := #[.val (.int p0), .val (.int p1), .val (.int p2), .val (.int p3), .val (.int p4), .val (.ref b1), .val (.int (1 : Int32)), .val (.int (p0 &&& (3 : Int32))), .val (.int (0 : Int32)), .val (.ref b16), .unset, .unset, .unset]) rfl ?_
        show Steps p.tables e below (T17.setTop (mkF m 79 #[.val (.int p0), .val (.int p1), .val (.int p2), .val (.int p3), .val (.int p4), .val (.ref b1), .val (.int (1 : Int32)), .val (.int (p0 &&& (3 : Int32))), .val (.int (0 : Int32)), .val (.ref b16), .unset, .unset, .unset] [])) t
        refine XS.iload X17.here hx rfl (hb hby at_79) rfl ?_
        show Steps p.tables e below (T17.setTop (mkF m 81 #[.val (.int p0), .val (.int p1), .val (.int p2), .val (.int p3), .val (.int p4), .val (.ref b1), .val (.int (1 : Int32)), .val (.int (p0 &&& (3 : Int32))), .val (.int (0 : Int32)), .val (.ref b16), .unset, .unset, .unset] [(.int p4)])) t
        refine XS.iconst X17.here hx rfl (hb hby at_81) ?_
        show Steps p.tables e below (T17.setTop (mkF m 82 #[.val (.int p0), .val (.int p1), .val (.int p2), .val (.int p3), .val (.int p4), .val (.ref b1), .val (.int (1 : Int32)), .val (.int (p0 &&& (3 : Int32))), .val (.int (0 : Int32)), .val (.ref b16), .unset, .unset, .unset] [(.int (1 : Int32)), (.int p4)])) t
        refine XS.iand X17.here hx rfl (hb hby at_82) rfl ?_
        show Steps p.tables e below (T17.setTop (mkF m 83 #[.val (.int p0), .val (.int p1), .val (.int p2), .val (.int p3), .val (.int p4), .val (.ref b1), .val (.int (1 : Int32)), .val (.int (p0 &&& (3 : Int32))), .val (.int (0 : Int32)), .val (.ref b16), .unset, .unset, .unset] [(.int (p4 &&& (1 : Int32)))])) t
        refine XS.istore X17.here hx rfl (hb hby at_83) rfl (l' := #[.val (.int p0), .val (.int p1), .val (.int p2), .val (.int p3), .val (.int p4), .val (.ref b1), .val (.int (1 : Int32)), .val (.int (p0 &&& (3 : Int32))), .val (.int (0 : Int32)), .val (.ref b16), .val (.int (p4 &&& (1 : Int32))), .unset, .unset]) rfl ?_
        show Steps p.tables e below (T17.setTop (mkF m 85 #[.val (.int p0), .val (.int p1), .val (.int p2), .val (.int p3), .val (.int p4), .val (.ref b1), .val (.int (1 : Int32)), .val (.int (p0 &&& (3 : Int32))), .val (.int (0 : Int32)), .val (.ref b16), .val (.int (p4 &&& (1 : Int32))), .unset, .unset] [])) t
        refine XS.iload X17.here hx rfl (hb hby at_85) rfl ?_
        show Steps p.tables e below (T17.setTop (mkF m 87 #[.val (.int p0), .val (.int p1), .val (.int p2), .val (.int p3), .val (.int p4), .val (.ref b1), .val (.int (1 : Int32)), .val (.int (p0 &&& (3 : Int32))), .val (.int (0 : Int32)), .val (.ref b16), .val (.int (p4 &&& (1 : Int32))), .unset, .unset] [(.int (p4 &&& (1 : Int32)))])) t
        refine XS.iconst X17.here hx rfl (hb hby at_87) ?_
        exact kt
      by_cases hc88 : (p4 &&& (1 : Int32)) = (1 : Int32)
      · refine OGo.step (F' := T17.setTop (mkF m 91 #[.val (.int p0), .val (.int p1), .val (.int p2), .val (.int p3), .val (.int p4), .val (.ref b1), .val (.int (1 : Int32)), .val (.int (p0 &&& (3 : Int32))), .val (.int (0 : Int32)), .val (.ref b16), .val (.int (p4 &&& (1 : Int32))), .unset, .unset] [])) (fun t kt => ?_) ?_
        · show Steps p.tables e below (T17.setTop (mkF m 88 #[.val (.int p0), .val (.int p1), .val (.int p2), .val (.int p3), .val (.int p4), .val (.ref b1), .val (.int (1 : Int32)), .val (.int (p0 &&& (3 : Int32))), .val (.int (0 : Int32)), .val (.ref b16), .val (.int (p4 &&& (1 : Int32))), .unset, .unset] [(.int (1 : Int32)), (.int (p4 &&& (1 : Int32)))])) t
          refine XS.icmpNo X17.here hx rfl (hb hby at_88) rfl (teq hc88).2 ?_
          exact kt
        refine OGo.step (F' := T17.setTop (mkF m 99 #[.val (.int p0), .val (.int p1), .val (.int p2), .val (.int p3), .val (.int p4), .val (.ref b1), .val (.int (1 : Int32)), .val (.int (p0 &&& (3 : Int32))), .val (.int (0 : Int32)), .val (.ref b16), .val (.int (p4 &&& (1 : Int32))), .unset, .unset] [(.long (((p4 >>> ((1 : Int32) &&& 31)).toInt16.toInt32).toInt64)), (.ref b16)])) (fun t kt => ?_) ?_
        · show Steps p.tables e below (T17.setTop (mkF m 91 #[.val (.int p0), .val (.int p1), .val (.int p2), .val (.int p3), .val (.int p4), .val (.ref b1), .val (.int (1 : Int32)), .val (.int (p0 &&& (3 : Int32))), .val (.int (0 : Int32)), .val (.ref b16), .val (.int (p4 &&& (1 : Int32))), .unset, .unset] [])) t
          refine XS.aload X17.here hx rfl (hb hby at_91) rfl rfl ?_
          show Steps p.tables e below (T17.setTop (mkF m 93 #[.val (.int p0), .val (.int p1), .val (.int p2), .val (.int p3), .val (.int p4), .val (.ref b1), .val (.int (1 : Int32)), .val (.int (p0 &&& (3 : Int32))), .val (.int (0 : Int32)), .val (.ref b16), .val (.int (p4 &&& (1 : Int32))), .unset, .unset] [(.ref b16)])) t
          refine XS.iload X17.here hx rfl (hb hby at_93) rfl ?_
          show Steps p.tables e below (T17.setTop (mkF m 95 #[.val (.int p0), .val (.int p1), .val (.int p2), .val (.int p3), .val (.int p4), .val (.ref b1), .val (.int (1 : Int32)), .val (.int (p0 &&& (3 : Int32))), .val (.int (0 : Int32)), .val (.ref b16), .val (.int (p4 &&& (1 : Int32))), .unset, .unset] [(.int p4), (.ref b16)])) t
          refine XS.iconst X17.here hx rfl (hb hby at_95) ?_
          show Steps p.tables e below (T17.setTop (mkF m 96 #[.val (.int p0), .val (.int p1), .val (.int p2), .val (.int p3), .val (.int p4), .val (.ref b1), .val (.int (1 : Int32)), .val (.int (p0 &&& (3 : Int32))), .val (.int (0 : Int32)), .val (.ref b16), .val (.int (p4 &&& (1 : Int32))), .unset, .unset] [(.int (1 : Int32)), (.int p4), (.ref b16)])) t
          refine XS.ishr X17.here hx rfl (hb hby at_96) rfl ?_
          show Steps p.tables e below (T17.setTop (mkF m 97 #[.val (.int p0), .val (.int p1), .val (.int p2), .val (.int p3), .val (.int p4), .val (.ref b1), .val (.int (1 : Int32)), .val (.int (p0 &&& (3 : Int32))), .val (.int (0 : Int32)), .val (.ref b16), .val (.int (p4 &&& (1 : Int32))), .unset, .unset] [(.int (p4 >>> ((1 : Int32) &&& 31))), (.ref b16)])) t
          refine XS.i2s X17.here hx rfl (hb hby at_97) rfl ?_
          show Steps p.tables e below (T17.setTop (mkF m 98 #[.val (.int p0), .val (.int p1), .val (.int p2), .val (.int p3), .val (.int p4), .val (.ref b1), .val (.int (1 : Int32)), .val (.int (p0 &&& (3 : Int32))), .val (.int (0 : Int32)), .val (.ref b16), .val (.int (p4 &&& (1 : Int32))), .unset, .unset] [(.int ((p4 >>> ((1 : Int32) &&& 31)).toInt16.toInt32)), (.ref b16)])) t
          refine XS.i2l X17.here hx rfl (hb hby at_98) rfl ?_
          exact kt
        refine OGo.callV X17 hx hZ (y := (⟨"com/example/oddhands/oddhands/simulator/Sample", "add", "(J)V"⟩ : MethodName)) (z := (⟨"com/example/oddhands/oddhands/simulator/Sample", "add", "(J)V"⟩ : MethodName)) hown (own_wd hw 29 rfl) (own_wd hw 30 rfl) (notFace_of_selects (args := #[]) (mvT hZ (own_wd hw 32 rfl))) (own_wd hw 32 rfl) (own_wd hw 31 rfl) (own_wd hw 2 rfl) (own_wd hw 33 rfl) (by decide) (rm6 l Z az hw [] b16 (((p4 >>> ((1 : Int32) &&& 31)).toInt16.toInt32).toInt64) (0 : Int64) (0 : Int64) (0 : Int64) 0 h16 n0 (Nat.le_trans Z0 KC16.1) F16_size F16_sum F16_sumOfSquares own_ok0 (by decide) (own_sh16 _) A16 gn_b16) (W := 0) (by decide) (by decide) A16 (g := (mkF m 99 #[.val (.int p0), .val (.int p1), .val (.int p2), .val (.int p3), .val (.int p4), .val (.ref b1), .val (.int (1 : Int32)), .val (.int (p0 &&& (3 : Int32))), .val (.int (0 : Int32)), .val (.ref b16), .val (.int (p4 &&& (1 : Int32))), .unset, .unset] [(.long (((p4 >>> ((1 : Int32) &&& 31)).toInt16.toInt32).toInt64)), (.ref b16)])) rfl (by rw [hml]; rfl) (argsL := [(.long (((p4 >>> ((1 : Int32) &&& 31)).toInt16.toInt32).toInt64))]) (rest := []) (lenOf pd_0_2 rfl) rfl (by show 2 * 0 + _ ≤ _; exact Nat.le_of_eq rfl) (hb hby at_99) rfl e17 (by decide) (by decide) ?_
        rintro _ T18 L18 X18 ⟨rfl, Nq18, K18, P18_0, P18_1, P18_2, P18_3⟩
        have KC18 : Keep h0 T18.heap [] := KC16.trans K18 (allS (Or.inr sz_b16) all0)
        have N18 := Fr.app N17 Nq18
        show OGo _ _ _ _ _ _ _ (T18.setTop (mkF m 102 #[.val (.int p0), .val (.int p1), .val (.int p2), .val (.int p3), .val (.int p4), .val (.ref b1), .val (.int (1 : Int32)), .val (.int (p0 &&& (3 : Int32))), .val (.int (0 : Int32)), .val (.ref b16), .val (.int (p4 &&& (1 : Int32))), .unset, .unset] []))
        refine OGo.step (F' := T18.setTop (mkF m 104 #[.val (.int p0), .val (.int p1), .val (.int p2), .val (.int p3), .val (.int p4), .val (.ref b1), .val (.int (1 : Int32)), .val (.int (p0 &&& (3 : Int32))), .val (.int (0 : Int32)), .val (.ref b16), .val (.int (p4 &&& (1 : Int32))), .unset, .unset] [(.ref b16)])) (fun t kt => ?_) ?_
        · show Steps p.tables e below (T18.setTop (mkF m 102 #[.val (.int p0), .val (.int p1), .val (.int p2), .val (.int p3), .val (.int p4), .val (.ref b1), .val (.int (1 : Int32)), .val (.int (p0 &&& (3 : Int32))), .val (.int (0 : Int32)), .val (.ref b16), .val (.int (p4 &&& (1 : Int32))), .unset, .unset] [])) t
          refine XS.aload X18.here hx rfl (hb hby at_102) rfl rfl ?_
          exact kt
        refine OGo.callV X18 hx hZ (y := (⟨"com/example/oddhands/oddhands/simulator/Sample", "isEmpty", "()Z"⟩ : MethodName)) (z := (⟨"com/example/oddhands/oddhands/simulator/Sample", "isEmpty", "()Z"⟩ : MethodName)) hown (own_wd hw 9 rfl) (own_wd hw 10 rfl) (notFace_of_selects (args := #[]) (mvT hZ (own_wd hw 12 rfl))) (own_wd hw 12 rfl) (own_wd hw 11 rfl) (own_wd hw 2 rfl) (own_wd hw 13 rfl) (by decide) (rm3 l Z az hw [] b16 (f7 (0 : Int64)) T18.heap n0 (Nat.le_trans Z0 KC18.1) P18_1) (W := 0) (by decide) (by decide) P18_0 (g := (mkF m 104 #[.val (.int p0), .val (.int p1), .val (.int p2), .val (.int p3), .val (.int p4), .val (.ref b1), .val (.int (1 : Int32)), .val (.int (p0 &&& (3 : Int32))), .val (.int (0 : Int32)), .val (.ref b16), .val (.int (p4 &&& (1 : Int32))), .unset, .unset] [(.ref b16)])) rfl (by rw [hml]; rfl) (argsL := []) (rest := []) (lenOf pd_0_1 rfl) rfl (by show 2 * 0 + _ ≤ _; exact Nat.le_of_eq rfl) (hb hby at_104) rfl rfl (by decide) (by decide) ?_
        rintro _ T19 L19 X19 ⟨hv19, Nq19, e19⟩
        have N19 := Fr.app N18 Nq19
        rw [show (f3 (f7 (0 : Int64))) = (0 : Int32) from by decide] at hv19
        subst hv19
        show OGo _ _ _ _ _ _ _ (T19.setTop (mkF m 107 #[.val (.int p0), .val (.int p1), .val (.int p2), .val (.int p3), .val (.int p4), .val (.ref b1), .val (.int (1 : Int32)), .val (.int (p0 &&& (3 : Int32))), .val (.int (0 : Int32)), .val (.ref b16), .val (.int (p4 &&& (1 : Int32))), .unset, .unset] [(.int (0 : Int32))]))
        refine OGo.step (F' := T19.setTop (mkF m 113 #[.val (.int p0), .val (.int p1), .val (.int p2), .val (.int p3), .val (.int p4), .val (.ref b1), .val (.int (1 : Int32)), .val (.int (p0 &&& (3 : Int32))), .val (.int (0 : Int32)), .val (.ref b16), .val (.int (p4 &&& (1 : Int32))), .val (.int (0 : Int32)), .unset] [(.ref b16), (.ref b1)])) (fun t kt => ?_) ?_
        · show Steps p.tables e below (T19.setTop (mkF m 107 #[.val (.int p0), .val (.int p1), .val (.int p2), .val (.int p3), .val (.int p4), .val (.ref b1), .val (.int (1 : Int32)), .val (.int (p0 &&& (3 : Int32))), .val (.int (0 : Int32)), .val (.ref b16), .val (.int (p4 &&& (1 : Int32))), .unset, .unset] [(.int (0 : Int32))])) t
          refine XS.istore X19.here hx rfl (hb hby at_107) rfl (l' := #[.val (.int p0), .val (.int p1), .val (.int p2), .val (.int p3), .val (.int p4), .val (.ref b1), .val (.int (1 : Int32)), .val (.int (p0 &&& (3 : Int32))), .val (.int (0 : Int32)), .val (.ref b16), .val (.int (p4 &&& (1 : Int32))), .val (.int (0 : Int32)), .unset]) rfl ?_
          show Steps p.tables e below (T19.setTop (mkF m 109 #[.val (.int p0), .val (.int p1), .val (.int p2), .val (.int p3), .val (.int p4), .val (.ref b1), .val (.int (1 : Int32)), .val (.int (p0 &&& (3 : Int32))), .val (.int (0 : Int32)), .val (.ref b16), .val (.int (p4 &&& (1 : Int32))), .val (.int (0 : Int32)), .unset] [])) t
          refine XS.aload X19.here hx rfl (hb hby at_109) rfl rfl ?_
          show Steps p.tables e below (T19.setTop (mkF m 111 #[.val (.int p0), .val (.int p1), .val (.int p2), .val (.int p3), .val (.int p4), .val (.ref b1), .val (.int (1 : Int32)), .val (.int (p0 &&& (3 : Int32))), .val (.int (0 : Int32)), .val (.ref b16), .val (.int (p4 &&& (1 : Int32))), .val (.int (0 : Int32)), .unset] [(.ref b1)])) t
          refine XS.aload X19.here hx rfl (hb hby at_111) rfl rfl ?_
          exact kt
        refine OGo.callV X19 hx hZ (y := (⟨"com/example/oddhands/oddhands/simulator/Sample", "add", "(Lcom/example/oddhands/oddhands/simulator/Sample;)V"⟩ : MethodName)) (z := (⟨"com/example/oddhands/oddhands/simulator/Sample", "add", "(Lcom/example/oddhands/oddhands/simulator/Sample;)V"⟩ : MethodName)) hown (own_wd hw 16 rfl) (own_wd hw 17 rfl) (notFace_of_selects (args := #[]) (mvT hZ (own_wd hw 19 rfl))) (own_wd hw 19 rfl) (own_wd hw 18 rfl) (own_wd hw 2 rfl) (own_wd hw 20 rfl) (by decide) (rm4 l Z az hw [] b1 b16 (f7 (0 : Int64)) (f5 (0 : Int64) ((p1.toInt16.toInt32).toInt64)) (f5 (0 : Int64) (f8 ((p1.toInt16.toInt32).toInt64) ((p1.toInt16.toInt32).toInt64))) (f7 (0 : Int64)) (f5 (0 : Int64) (((p4 >>> ((1 : Int32) &&& 31)).toInt16.toInt32).toInt64)) (f5 (0 : Int64) (f8 (((p4 >>> ((1 : Int32) &&& 31)).toInt16.toInt32).toInt64) (((p4 >>> ((1 : Int32) &&& 31)).toInt16.toInt32).toInt64))) 1 1 T18.heap n0 (Nat.le_trans Z0 KC18.1) ((P14_1.ext E16).keep K18 (ninS (Nat.ne_of_lt (Nat.lt_of_lt_of_le P14_0.lt (Nat.le_of_eq g16.symm))) nin0)) ((P14_2.ext E16).keep K18 (ninS (Nat.ne_of_lt (Nat.lt_of_lt_of_le P14_0.lt (Nat.le_of_eq g16.symm))) nin0)) ((P14_3.ext E16).keep K18 (ninS (Nat.ne_of_lt (Nat.lt_of_lt_of_le P14_0.lt (Nat.le_of_eq g16.symm))) nin0)) P18_1 P18_2 P18_3 (own_step 0 _ _ _ _ own_ok0 (own_sh16 _) (by decide)) (own_step 0 _ _ _ _ own_ok0 (own_sh16 _) (by decide)) (by decide) (by decide) (Ne.symm (Nat.ne_of_lt (Nat.lt_of_lt_of_le P14_0.lt (Nat.le_of_eq g16.symm)))) ((P14_0.ext E16).keep K18) gn_b1) (W := 0) (by decide) (by decide) ((P14_0.ext E16).keep K18) (g := (mkF m 113 #[.val (.int p0), .val (.int p1), .val (.int p2), .val (.int p3), .val (.int p4), .val (.ref b1), .val (.int (1 : Int32)), .val (.int (p0 &&& (3 : Int32))), .val (.int (0 : Int32)), .val (.ref b16), .val (.int (p4 &&& (1 : Int32))), .val (.int (0 : Int32)), .unset] [(.ref b16), (.ref b1)])) rfl (by rw [hml]; rfl) (argsL := [(.ref b16)]) (rest := []) (lenOf pd_0_3 rfl) rfl (by show 2 * 0 + _ ≤ _; exact Nat.le_of_eq rfl) (hb hby at_113) rfl e19 (by decide) (by decide) ?_
        rintro _ T20 L20 X20 ⟨rfl, Nq20, K20, P20_0, P20_1⟩
        have KC20 : Keep h0 T20.heap [] := KC18.trans K20 (allS (Or.inr sz_b1) all0)
        have N20 := Fr.app N19 Nq20
        show OGo _ _ _ _ _ _ _ (T20.setTop (mkF m 116 #[.val (.int p0), .val (.int p1), .val (.int p2), .val (.int p3), .val (.int p4), .val (.ref b1), .val (.int (1 : Int32)), .val (.int (p0 &&& (3 : Int32))), .val (.int (0 : Int32)), .val (.ref b16), .val (.int (p4 &&& (1 : Int32))), .val (.int (0 : Int32)), .unset] []))
        refine OGo.step (F' := T20.setTop (mkF m 118 #[.val (.int p0), .val (.int p1), .val (.int p2), .val (.int p3), .val (.int p4), .val (.ref b1), .val (.int (1 : Int32)), .val (.int (p0 &&& (3 : Int32))), .val (.int (0 : Int32)), .val (.ref b16), .val (.int (p4 &&& (1 : Int32))), .val (.int (0 : Int32)), .unset] [(.ref b1)])) (fun t kt => ?_) ?_
        · show Steps p.tables e below (T20.setTop (mkF m 116 #[.val (.int p0), .val (.int p1), .val (.int p2), .val (.int p3), .val (.int p4), .val (.ref b1), .val (.int (1 : Int32)), .val (.int (p0 &&& (3 : Int32))), .val (.int (0 : Int32)), .val (.ref b16), .val (.int (p4 &&& (1 : Int32))), .val (.int (0 : Int32)), .unset] [])) t
          refine XS.aload X20.here hx rfl (hb hby at_116) rfl rfl ?_
          exact kt
        refine OGo.callV X20 hx hZ (y := (⟨"com/example/oddhands/oddhands/simulator/Sample", "isEmpty", "()Z"⟩ : MethodName)) (z := (⟨"com/example/oddhands/oddhands/simulator/Sample", "isEmpty", "()Z"⟩ : MethodName)) hown (own_wd hw 9 rfl) (own_wd hw 10 rfl) (notFace_of_selects (args := #[]) (mvT hZ (own_wd hw 12 rfl))) (own_wd hw 12 rfl) (own_wd hw 11 rfl) (own_wd hw 2 rfl) (own_wd hw 13 rfl) (by decide) (rm3 l Z az hw [] b1 (f5 (f7 (0 : Int64)) (f7 (0 : Int64))) T20.heap n0 (Nat.le_trans Z0 KC20.1) P20_1) (W := 0) (by decide) (by decide) P20_0 (g := (mkF m 118 #[.val (.int p0), .val (.int p1), .val (.int p2), .val (.int p3), .val (.int p4), .val (.ref b1), .val (.int (1 : Int32)), .val (.int (p0 &&& (3 : Int32))), .val (.int (0 : Int32)), .val (.ref b16), .val (.int (p4 &&& (1 : Int32))), .val (.int (0 : Int32)), .unset] [(.ref b1)])) rfl (by rw [hml]; rfl) (argsL := []) (rest := []) (lenOf pd_0_1 rfl) rfl (by show 2 * 0 + _ ≤ _; exact Nat.le_of_eq rfl) (hb hby at_118) rfl rfl (by decide) (by decide) ?_
        rintro _ T21 L21 X21 ⟨hv21, Nq21, e21⟩
        have N21 := Fr.app N20 Nq21
        rw [show (f3 (f5 (f7 (0 : Int64)) (f7 (0 : Int64)))) = (0 : Int32) from by decide] at hv21
        subst hv21
        show OGo _ _ _ _ _ _ _ (T21.setTop (mkF m 121 #[.val (.int p0), .val (.int p1), .val (.int p2), .val (.int p3), .val (.int p4), .val (.ref b1), .val (.int (1 : Int32)), .val (.int (p0 &&& (3 : Int32))), .val (.int (0 : Int32)), .val (.ref b16), .val (.int (p4 &&& (1 : Int32))), .val (.int (0 : Int32)), .unset] [(.int (0 : Int32))]))
        refine OGo.step (F' := T21.setTop (mkF m 183 #[.val (.int p0), .val (.int p1), .val (.int p2), .val (.int p3), .val (.int p4), .val (.ref b1), .val (.int (1 : Int32)), .val (.int (p0 &&& (3 : Int32))), .val (.int (0 : Int32)), .val (.ref b16), .val (.int (p4 &&& (1 : Int32))), .val (.int (0 : Int32)), .val (.int (0 : Int32))] [(.int (1 : Int32))])) (fun t kt => ?_) ?_
        · show Steps p.tables e below (T21.setTop (mkF m 121 #[.val (.int p0), .val (.int p1), .val (.int p2), .val (.int p3), .val (.int p4), .val (.ref b1), .val (.int (1 : Int32)), .val (.int (p0 &&& (3 : Int32))), .val (.int (0 : Int32)), .val (.ref b16), .val (.int (p4 &&& (1 : Int32))), .val (.int (0 : Int32)), .unset] [(.int (0 : Int32))])) t
          refine XS.istore X21.here hx rfl (hb hby at_121) rfl (l' := #[.val (.int p0), .val (.int p1), .val (.int p2), .val (.int p3), .val (.int p4), .val (.ref b1), .val (.int (1 : Int32)), .val (.int (p0 &&& (3 : Int32))), .val (.int (0 : Int32)), .val (.ref b16), .val (.int (p4 &&& (1 : Int32))), .val (.int (0 : Int32)), .val (.int (0 : Int32))]) rfl ?_
          show Steps p.tables e below (T21.setTop (mkF m 123 #[.val (.int p0), .val (.int p1), .val (.int p2), .val (.int p3), .val (.int p4), .val (.ref b1), .val (.int (1 : Int32)), .val (.int (p0 &&& (3 : Int32))), .val (.int (0 : Int32)), .val (.ref b16), .val (.int (p4 &&& (1 : Int32))), .val (.int (0 : Int32)), .val (.int (0 : Int32))] [])) t
          refine XS.iload X21.here hx rfl (hb hby at_123) rfl ?_
          show Steps p.tables e below (T21.setTop (mkF m 125 #[.val (.int p0), .val (.int p1), .val (.int p2), .val (.int p3), .val (.int p4), .val (.ref b1), .val (.int (1 : Int32)), .val (.int (p0 &&& (3 : Int32))), .val (.int (0 : Int32)), .val (.ref b16), .val (.int (p4 &&& (1 : Int32))), .val (.int (0 : Int32)), .val (.int (0 : Int32))] [(.int (1 : Int32))])) t
          refine XS.ifNo X21.here hx rfl (hb hby at_125) rfl ((if0 _ _).trans (feq (by decide : ¬ ((1 : Int32) = (0 : Int32)))).1) ?_
          show Steps p.tables e below (T21.setTop (mkF m 128 #[.val (.int p0), .val (.int p1), .val (.int p2), .val (.int p3), .val (.int p4), .val (.ref b1), .val (.int (1 : Int32)), .val (.int (p0 &&& (3 : Int32))), .val (.int (0 : Int32)), .val (.ref b16), .val (.int (p4 &&& (1 : Int32))), .val (.int (0 : Int32)), .val (.int (0 : Int32))] [])) t
          refine XS.iload X21.here hx rfl (hb hby at_128) rfl ?_
          show Steps p.tables e below (T21.setTop (mkF m 130 #[.val (.int p0), .val (.int p1), .val (.int p2), .val (.int p3), .val (.int p4), .val (.ref b1), .val (.int (1 : Int32)), .val (.int (p0 &&& (3 : Int32))), .val (.int (0 : Int32)), .val (.ref b16), .val (.int (p4 &&& (1 : Int32))), .val (.int (0 : Int32)), .val (.int (0 : Int32))] [(.int (0 : Int32))])) t
          refine XS.iload X21.here hx rfl (hb hby at_130) rfl ?_
          show Steps p.tables e below (T21.setTop (mkF m 132 #[.val (.int p0), .val (.int p1), .val (.int p2), .val (.int p3), .val (.int p4), .val (.ref b1), .val (.int (1 : Int32)), .val (.int (p0 &&& (3 : Int32))), .val (.int (0 : Int32)), .val (.ref b16), .val (.int (p4 &&& (1 : Int32))), .val (.int (0 : Int32)), .val (.int (0 : Int32))] [(.int (p0 &&& (3 : Int32))), (.int (0 : Int32))])) t
          refine XS.ifYes X21.here hx rfl (pc0 := 132) (pc' := 139) rfl (hb hby at_132) rfl ((if0 _ _).trans (feq (own_k1 hc24)).2) (by decide) (by decide) ?_
          show Steps p.tables e below (T21.setTop (mkF m 139 #[.val (.int p0), .val (.int p1), .val (.int p2), .val (.int p3), .val (.int p4), .val (.ref b1), .val (.int (1 : Int32)), .val (.int (p0 &&& (3 : Int32))), .val (.int (0 : Int32)), .val (.ref b16), .val (.int (p4 &&& (1 : Int32))), .val (.int (0 : Int32)), .val (.int (0 : Int32))] [(.int (0 : Int32))])) t
          refine XS.iconst X21.here hx rfl (hb hby at_139) ?_
          show Steps p.tables e below (T21.setTop (mkF m 140 #[.val (.int p0), .val (.int p1), .val (.int p2), .val (.int p3), .val (.int p4), .val (.ref b1), .val (.int (1 : Int32)), .val (.int (p0 &&& (3 : Int32))), .val (.int (0 : Int32)), .val (.ref b16), .val (.int (p4 &&& (1 : Int32))), .val (.int (0 : Int32)), .val (.int (0 : Int32))] [(.int (0 : Int32)), (.int (0 : Int32))])) t
          refine XS.icmpNo X21.here hx rfl (hb hby at_140) rfl (teq (by decide : (0 : Int32) = (0 : Int32))).2 ?_
          show Steps p.tables e below (T21.setTop (mkF m 143 #[.val (.int p0), .val (.int p1), .val (.int p2), .val (.int p3), .val (.int p4), .val (.ref b1), .val (.int (1 : Int32)), .val (.int (p0 &&& (3 : Int32))), .val (.int (0 : Int32)), .val (.ref b16), .val (.int (p4 &&& (1 : Int32))), .val (.int (0 : Int32)), .val (.int (0 : Int32))] [])) t
          refine XS.iload X21.here hx rfl (hb hby at_143) rfl ?_
          show Steps p.tables e below (T21.setTop (mkF m 145 #[.val (.int p0), .val (.int p1), .val (.int p2), .val (.int p3), .val (.int p4), .val (.ref b1), .val (.int (1 : Int32)), .val (.int (p0 &&& (3 : Int32))), .val (.int (0 : Int32)), .val (.ref b16), .val (.int (p4 &&& (1 : Int32))), .val (.int (0 : Int32)), .val (.int (0 : Int32))] [(.int (0 : Int32))])) t
          refine XS.iload X21.here hx rfl (hb hby at_145) rfl ?_
          show Steps p.tables e below (T21.setTop (mkF m 147 #[.val (.int p0), .val (.int p1), .val (.int p2), .val (.int p3), .val (.int p4), .val (.ref b1), .val (.int (1 : Int32)), .val (.int (p0 &&& (3 : Int32))), .val (.int (0 : Int32)), .val (.ref b16), .val (.int (p4 &&& (1 : Int32))), .val (.int (0 : Int32)), .val (.int (0 : Int32))] [(.int (p4 &&& (1 : Int32))), (.int (0 : Int32))])) t
          refine XS.ifYes X21.here hx rfl (pc0 := 147) (pc' := 154) rfl (hb hby at_147) rfl ((if0 _ _).trans (feq (own_j1 hc88)).2) (by decide) (by decide) ?_
          show Steps p.tables e below (T21.setTop (mkF m 154 #[.val (.int p0), .val (.int p1), .val (.int p2), .val (.int p3), .val (.int p4), .val (.ref b1), .val (.int (1 : Int32)), .val (.int (p0 &&& (3 : Int32))), .val (.int (0 : Int32)), .val (.ref b16), .val (.int (p4 &&& (1 : Int32))), .val (.int (0 : Int32)), .val (.int (0 : Int32))] [(.int (0 : Int32))])) t
          refine XS.iconst X21.here hx rfl (hb hby at_154) ?_
          show Steps p.tables e below (T21.setTop (mkF m 155 #[.val (.int p0), .val (.int p1), .val (.int p2), .val (.int p3), .val (.int p4), .val (.ref b1), .val (.int (1 : Int32)), .val (.int (p0 &&& (3 : Int32))), .val (.int (0 : Int32)), .val (.ref b16), .val (.int (p4 &&& (1 : Int32))), .val (.int (0 : Int32)), .val (.int (0 : Int32))] [(.int (0 : Int32)), (.int (0 : Int32))])) t
          refine XS.icmpNo X21.here hx rfl (hb hby at_155) rfl (teq (by decide : (0 : Int32) = (0 : Int32))).2 ?_
          show Steps p.tables e below (T21.setTop (mkF m 158 #[.val (.int p0), .val (.int p1), .val (.int p2), .val (.int p3), .val (.int p4), .val (.ref b1), .val (.int (1 : Int32)), .val (.int (p0 &&& (3 : Int32))), .val (.int (0 : Int32)), .val (.ref b16), .val (.int (p4 &&& (1 : Int32))), .val (.int (0 : Int32)), .val (.int (0 : Int32))] [])) t
          refine XS.iload X21.here hx rfl (hb hby at_158) rfl ?_
          show Steps p.tables e below (T21.setTop (mkF m 160 #[.val (.int p0), .val (.int p1), .val (.int p2), .val (.int p3), .val (.int p4), .val (.ref b1), .val (.int (1 : Int32)), .val (.int (p0 &&& (3 : Int32))), .val (.int (0 : Int32)), .val (.ref b16), .val (.int (p4 &&& (1 : Int32))), .val (.int (0 : Int32)), .val (.int (0 : Int32))] [(.int (0 : Int32))])) t
          refine XS.iload X21.here hx rfl (hb hby at_160) rfl ?_
          show Steps p.tables e below (T21.setTop (mkF m 162 #[.val (.int p0), .val (.int p1), .val (.int p2), .val (.int p3), .val (.int p4), .val (.ref b1), .val (.int (1 : Int32)), .val (.int (p0 &&& (3 : Int32))), .val (.int (0 : Int32)), .val (.ref b16), .val (.int (p4 &&& (1 : Int32))), .val (.int (0 : Int32)), .val (.int (0 : Int32))] [(.int (p0 &&& (3 : Int32))), (.int (0 : Int32))])) t
          refine XS.ifYes X21.here hx rfl (pc0 := 162) (pc' := 174) rfl (hb hby at_162) rfl ((if0 _ _).trans (feq (own_k1 hc24)).2) (by decide) (by decide) ?_
          show Steps p.tables e below (T21.setTop (mkF m 174 #[.val (.int p0), .val (.int p1), .val (.int p2), .val (.int p3), .val (.int p4), .val (.ref b1), .val (.int (1 : Int32)), .val (.int (p0 &&& (3 : Int32))), .val (.int (0 : Int32)), .val (.ref b16), .val (.int (p4 &&& (1 : Int32))), .val (.int (0 : Int32)), .val (.int (0 : Int32))] [(.int (0 : Int32))])) t
          refine XS.iconst X21.here hx rfl (hb hby at_174) ?_
          show Steps p.tables e below (T21.setTop (mkF m 175 #[.val (.int p0), .val (.int p1), .val (.int p2), .val (.int p3), .val (.int p4), .val (.ref b1), .val (.int (1 : Int32)), .val (.int (p0 &&& (3 : Int32))), .val (.int (0 : Int32)), .val (.ref b16), .val (.int (p4 &&& (1 : Int32))), .val (.int (0 : Int32)), .val (.int (0 : Int32))] [(.int (0 : Int32)), (.int (0 : Int32))])) t
          refine XS.icmpNo X21.here hx rfl (hb hby at_175) rfl (teq (by decide : (0 : Int32) = (0 : Int32))).2 ?_
          show Steps p.tables e below (T21.setTop (mkF m 178 #[.val (.int p0), .val (.int p1), .val (.int p2), .val (.int p3), .val (.int p4), .val (.ref b1), .val (.int (1 : Int32)), .val (.int (p0 &&& (3 : Int32))), .val (.int (0 : Int32)), .val (.ref b16), .val (.int (p4 &&& (1 : Int32))), .val (.int (0 : Int32)), .val (.int (0 : Int32))] [])) t
          refine XS.iconst X21.here hx rfl (hb hby at_178) ?_
          show Steps p.tables e below (T21.setTop (mkF m 179 #[.val (.int p0), .val (.int p1), .val (.int p2), .val (.int p3), .val (.int p4), .val (.ref b1), .val (.int (1 : Int32)), .val (.int (p0 &&& (3 : Int32))), .val (.int (0 : Int32)), .val (.ref b16), .val (.int (p4 &&& (1 : Int32))), .val (.int (0 : Int32)), .val (.int (0 : Int32))] [(.int (1 : Int32))])) t
          refine XS.goto X21.here hx rfl (pc0 := 179) (pc' := 183) rfl (hb hby at_179) (by decide) (by decide) ?_
          exact kt
        refine OGo.retZ X21 hx hlk (t := .boolean) (z' := (1 : Int32)) hret (by simp) (hb hby at_183) rfl ?_ (by decide) (by decide)
        show Q0 Z p0 p1 p2 p3 p4 h0 n0 _ T21.heap _
        rw [e21]
        exact ⟨(by rw [f0, if_neg hc24, if_pos hc38, if_pos hc88]), N21, KC20⟩
      · refine OGo.step (F' := T17.setTop (mkF m 102 #[.val (.int p0), .val (.int p1), .val (.int p2), .val (.int p3), .val (.int p4), .val (.ref b1), .val (.int (1 : Int32)), .val (.int (p0 &&& (3 : Int32))), .val (.int (0 : Int32)), .val (.ref b16), .val (.int (p4 &&& (1 : Int32))), .unset, .unset] [])) (fun t kt => ?_) ?_
        · show Steps p.tables e below (T17.setTop (mkF m 88 #[.val (.int p0), .val (.int p1), .val (.int p2), .val (.int p3), .val (.int p4), .val (.ref b1), .val (.int (1 : Int32)), .val (.int (p0 &&& (3 : Int32))), .val (.int (0 : Int32)), .val (.ref b16), .val (.int (p4 &&& (1 : Int32))), .unset, .unset] [(.int (1 : Int32)), (.int (p4 &&& (1 : Int32)))])) t
          refine XS.icmpYes X17.here hx rfl (pc0 := 88) (pc' := 102) rfl (hb hby at_88) rfl (feq hc88).2 (by decide) (by decide) ?_
          exact kt
        refine OGo.step (F' := T17.setTop (mkF m 104 #[.val (.int p0), .val (.int p1), .val (.int p2), .val (.int p3), .val (.int p4), .val (.ref b1), .val (.int (1 : Int32)), .val (.int (p0 &&& (3 : Int32))), .val (.int (0 : Int32)), .val (.ref b16), .val (.int (p4 &&& (1 : Int32))), .unset, .unset] [(.ref b16)])) (fun t kt => ?_) ?_
        · show Steps p.tables e below (T17.setTop (mkF m 102 #[.val (.int p0), .val (.int p1), .val (.int p2), .val (.int p3), .val (.int p4), .val (.ref b1), .val (.int (1 : Int32)), .val (.int (p0 &&& (3 : Int32))), .val (.int (0 : Int32)), .val (.ref b16), .val (.int (p4 &&& (1 : Int32))), .unset, .unset] [])) t
          refine XS.aload X17.here hx rfl (hb hby at_102) rfl rfl ?_
          exact kt
        refine OGo.callV X17 hx hZ (y := (⟨"com/example/oddhands/oddhands/simulator/Sample", "isEmpty", "()Z"⟩ : MethodName)) (z := (⟨"com/example/oddhands/oddhands/simulator/Sample", "isEmpty", "()Z"⟩ : MethodName)) hown (own_wd hw 9 rfl) (own_wd hw 10 rfl) (notFace_of_selects (args := #[]) (mvT hZ (own_wd hw 12 rfl))) (own_wd hw 12 rfl) (own_wd hw 11 rfl) (own_wd hw 2 rfl) (own_wd hw 13 rfl) (by decide) (rm3 l Z az hw [] b16 (0 : Int64) h16 n0 (Nat.le_trans Z0 KC16.1) F16_size) (W := 0) (by decide) (by decide) A16 (g := (mkF m 104 #[.val (.int p0), .val (.int p1), .val (.int p2), .val (.int p3), .val (.int p4), .val (.ref b1), .val (.int (1 : Int32)), .val (.int (p0 &&& (3 : Int32))), .val (.int (0 : Int32)), .val (.ref b16), .val (.int (p4 &&& (1 : Int32))), .unset, .unset] [(.ref b16)])) rfl (by rw [hml]; rfl) (argsL := []) (rest := []) (lenOf pd_0_1 rfl) rfl (by show 2 * 0 + _ ≤ _; exact Nat.le_of_eq rfl) (hb hby at_104) rfl e17 (by decide) (by decide) ?_
        rintro _ T22 L22 X22 ⟨hv22, Nq22, e22⟩
        have N22 := Fr.app N17 Nq22
        rw [show (f3 (0 : Int64)) = (1 : Int32) from by decide] at hv22
        subst hv22
        show OGo _ _ _ _ _ _ _ (T22.setTop (mkF m 107 #[.val (.int p0), .val (.int p1), .val (.int p2), .val (.int p3), .val (.int p4), .val (.ref b1), .val (.int (1 : Int32)), .val (.int (p0 &&& (3 : Int32))), .val (.int (0 : Int32)), .val (.ref b16), .val (.int (p4 &&& (1 : Int32))), .unset, .unset] [(.int (1 : Int32))]))
        refine OGo.step (F' := T22.setTop (mkF m 113 #[.val (.int p0), .val (.int p1), .val (.int p2), .val (.int p3), .val (.int p4), .val (.ref b1), .val (.int (1 : Int32)), .val (.int (p0 &&& (3 : Int32))), .val (.int (0 : Int32)), .val (.ref b16), .val (.int (p4 &&& (1 : Int32))), .val (.int (1 : Int32)), .unset] [(.ref b16), (.ref b1)])) (fun t kt => ?_) ?_
        · show Steps p.tables e below (T22.setTop (mkF m 107 #[.val (.int p0), .val (.int p1), .val (.int p2), .val (.int p3), .val (.int p4), .val (.ref b1), .val (.int (1 : Int32)), .val (.int (p0 &&& (3 : Int32))), .val (.int (0 : Int32)), .val (.ref b16), .val (.int (p4 &&& (1 : Int32))), .unset, .unset] [(.int (1 : Int32))])) t
          refine XS.istore X22.here hx rfl (hb hby at_107) rfl (l' := #[.val (.int p0), .val (.int p1), .val (.int p2), .val (.int p3), .val (.int p4), .val (.ref b1), .val (.int (1 : Int32)), .val (.int (p0 &&& (3 : Int32))), .val (.int (0 : Int32)), .val (.ref b16), .val (.int (p4 &&& (1 : Int32))), .val (.int (1 : Int32)), .unset]) rfl ?_
          show Steps p.tables e below (T22.setTop (mkF m 109 #[.val (.int p0), .val (.int p1), .val (.int p2), .val (.int p3), .val (.int p4), .val (.ref b1), .val (.int (1 : Int32)), .val (.int (p0 &&& (3 : Int32))), .val (.int (0 : Int32)), .val (.ref b16), .val (.int (p4 &&& (1 : Int32))), .val (.int (1 : Int32)), .unset] [])) t
          refine XS.aload X22.here hx rfl (hb hby at_109) rfl rfl ?_
          show Steps p.tables e below (T22.setTop (mkF m 111 #[.val (.int p0), .val (.int p1), .val (.int p2), .val (.int p3), .val (.int p4), .val (.ref b1), .val (.int (1 : Int32)), .val (.int (p0 &&& (3 : Int32))), .val (.int (0 : Int32)), .val (.ref b16), .val (.int (p4 &&& (1 : Int32))), .val (.int (1 : Int32)), .unset] [(.ref b1)])) t
          refine XS.aload X22.here hx rfl (hb hby at_111) rfl rfl ?_
          exact kt
        refine OGo.callV X22 hx hZ (y := (⟨"com/example/oddhands/oddhands/simulator/Sample", "add", "(Lcom/example/oddhands/oddhands/simulator/Sample;)V"⟩ : MethodName)) (z := (⟨"com/example/oddhands/oddhands/simulator/Sample", "add", "(Lcom/example/oddhands/oddhands/simulator/Sample;)V"⟩ : MethodName)) hown (own_wd hw 16 rfl) (own_wd hw 17 rfl) (notFace_of_selects (args := #[]) (mvT hZ (own_wd hw 19 rfl))) (own_wd hw 19 rfl) (own_wd hw 18 rfl) (own_wd hw 2 rfl) (own_wd hw 20 rfl) (by decide) (rm4 l Z az hw [] b1 b16 (f7 (0 : Int64)) (f5 (0 : Int64) ((p1.toInt16.toInt32).toInt64)) (f5 (0 : Int64) (f8 ((p1.toInt16.toInt32).toInt64) ((p1.toInt16.toInt32).toInt64))) (0 : Int64) (0 : Int64) (0 : Int64) 1 0 h16 n0 (Nat.le_trans Z0 KC16.1) (P14_1.ext E16) (P14_2.ext E16) (P14_3.ext E16) F16_size F16_sum F16_sumOfSquares (own_step 0 _ _ _ _ own_ok0 (own_sh16 _) (by decide)) own_ok0 (by decide) (by decide) (Ne.symm (Nat.ne_of_lt (Nat.lt_of_lt_of_le P14_0.lt (Nat.le_of_eq g16.symm)))) (P14_0.ext E16) gn_b1) (W := 0) (by decide) (by decide) (P14_0.ext E16) (g := (mkF m 113 #[.val (.int p0), .val (.int p1), .val (.int p2), .val (.int p3), .val (.int p4), .val (.ref b1), .val (.int (1 : Int32)), .val (.int (p0 &&& (3 : Int32))), .val (.int (0 : Int32)), .val (.ref b16), .val (.int (p4 &&& (1 : Int32))), .val (.int (1 : Int32)), .unset] [(.ref b16), (.ref b1)])) rfl (by rw [hml]; rfl) (argsL := [(.ref b16)]) (rest := []) (lenOf pd_0_3 rfl) rfl (by show 2 * 0 + _ ≤ _; exact Nat.le_of_eq rfl) (hb hby at_113) rfl e22 (by decide) (by decide) ?_
        rintro _ T23 L23 X23 ⟨rfl, Nq23, K23, P23_0, P23_1⟩
        have KC23 : Keep h0 T23.heap [] := KC16.trans K23 (allS (Or.inr sz_b1) all0)
        have N23 := Fr.app N22 Nq23
        show OGo _ _ _ _ _ _ _ (T23.setTop (mkF m 116 #[.val (.int p0), .val (.int p1), .val (.int p2), .val (.int p3), .val (.int p4), .val (.ref b1), .val (.int (1 : Int32)), .val (.int (p0 &&& (3 : Int32))), .val (.int (0 : Int32)), .val (.ref b16), .val (.int (p4 &&& (1 : Int32))), .val (.int (1 : Int32)), .unset] []))
        refine OGo.step (F' := T23.setTop (mkF m 118 #[.val (.int p0), .val (.int p1), .val (.int p2), .val (.int p3), .val (.int p4), .val (.ref b1), .val (.int (1 : Int32)), .val (.int (p0 &&& (3 : Int32))), .val (.int (0 : Int32)), .val (.ref b16), .val (.int (p4 &&& (1 : Int32))), .val (.int (1 : Int32)), .unset] [(.ref b1)])) (fun t kt => ?_) ?_
        · show Steps p.tables e below (T23.setTop (mkF m 116 #[.val (.int p0), .val (.int p1), .val (.int p2), .val (.int p3), .val (.int p4), .val (.ref b1), .val (.int (1 : Int32)), .val (.int (p0 &&& (3 : Int32))), .val (.int (0 : Int32)), .val (.ref b16), .val (.int (p4 &&& (1 : Int32))), .val (.int (1 : Int32)), .unset] [])) t
          refine XS.aload X23.here hx rfl (hb hby at_116) rfl rfl ?_
          exact kt
        refine OGo.callV X23 hx hZ (y := (⟨"com/example/oddhands/oddhands/simulator/Sample", "isEmpty", "()Z"⟩ : MethodName)) (z := (⟨"com/example/oddhands/oddhands/simulator/Sample", "isEmpty", "()Z"⟩ : MethodName)) hown (own_wd hw 9 rfl) (own_wd hw 10 rfl) (notFace_of_selects (args := #[]) (mvT hZ (own_wd hw 12 rfl))) (own_wd hw 12 rfl) (own_wd hw 11 rfl) (own_wd hw 2 rfl) (own_wd hw 13 rfl) (by decide) (rm3 l Z az hw [] b1 (f5 (f7 (0 : Int64)) (0 : Int64)) T23.heap n0 (Nat.le_trans Z0 KC23.1) P23_1) (W := 0) (by decide) (by decide) P23_0 (g := (mkF m 118 #[.val (.int p0), .val (.int p1), .val (.int p2), .val (.int p3), .val (.int p4), .val (.ref b1), .val (.int (1 : Int32)), .val (.int (p0 &&& (3 : Int32))), .val (.int (0 : Int32)), .val (.ref b16), .val (.int (p4 &&& (1 : Int32))), .val (.int (1 : Int32)), .unset] [(.ref b1)])) rfl (by rw [hml]; rfl) (argsL := []) (rest := []) (lenOf pd_0_1 rfl) rfl (by show 2 * 0 + _ ≤ _; exact Nat.le_of_eq rfl) (hb hby at_118) rfl rfl (by decide) (by decide) ?_
        rintro _ T24 L24 X24 ⟨hv24, Nq24, e24⟩
        have N24 := Fr.app N23 Nq24
        rw [show (f3 (f5 (f7 (0 : Int64)) (0 : Int64))) = (0 : Int32) from by decide] at hv24
        subst hv24
        show OGo _ _ _ _ _ _ _ (T24.setTop (mkF m 121 #[.val (.int p0), .val (.int p1), .val (.int p2), .val (.int p3), .val (.int p4), .val (.ref b1), .val (.int (1 : Int32)), .val (.int (p0 &&& (3 : Int32))), .val (.int (0 : Int32)), .val (.ref b16), .val (.int (p4 &&& (1 : Int32))), .val (.int (1 : Int32)), .unset] [(.int (0 : Int32))]))
        refine OGo.step (F' := T24.setTop (mkF m 183 #[.val (.int p0), .val (.int p1), .val (.int p2), .val (.int p3), .val (.int p4), .val (.ref b1), .val (.int (1 : Int32)), .val (.int (p0 &&& (3 : Int32))), .val (.int (0 : Int32)), .val (.ref b16), .val (.int (p4 &&& (1 : Int32))), .val (.int (1 : Int32)), .val (.int (0 : Int32))] [(.int (1 : Int32))])) (fun t kt => ?_) ?_
        · show Steps p.tables e below (T24.setTop (mkF m 121 #[.val (.int p0), .val (.int p1), .val (.int p2), .val (.int p3), .val (.int p4), .val (.ref b1), .val (.int (1 : Int32)), .val (.int (p0 &&& (3 : Int32))), .val (.int (0 : Int32)), .val (.ref b16), .val (.int (p4 &&& (1 : Int32))), .val (.int (1 : Int32)), .unset] [(.int (0 : Int32))])) t
          refine XS.istore X24.here hx rfl (hb hby at_121) rfl (l' := #[.val (.int p0), .val (.int p1), .val (.int p2), .val (.int p3), .val (.int p4), .val (.ref b1), .val (.int (1 : Int32)), .val (.int (p0 &&& (3 : Int32))), .val (.int (0 : Int32)), .val (.ref b16), .val (.int (p4 &&& (1 : Int32))), .val (.int (1 : Int32)), .val (.int (0 : Int32))]) rfl ?_
          show Steps p.tables e below (T24.setTop (mkF m 123 #[.val (.int p0), .val (.int p1), .val (.int p2), .val (.int p3), .val (.int p4), .val (.ref b1), .val (.int (1 : Int32)), .val (.int (p0 &&& (3 : Int32))), .val (.int (0 : Int32)), .val (.ref b16), .val (.int (p4 &&& (1 : Int32))), .val (.int (1 : Int32)), .val (.int (0 : Int32))] [])) t
          refine XS.iload X24.here hx rfl (hb hby at_123) rfl ?_
          show Steps p.tables e below (T24.setTop (mkF m 125 #[.val (.int p0), .val (.int p1), .val (.int p2), .val (.int p3), .val (.int p4), .val (.ref b1), .val (.int (1 : Int32)), .val (.int (p0 &&& (3 : Int32))), .val (.int (0 : Int32)), .val (.ref b16), .val (.int (p4 &&& (1 : Int32))), .val (.int (1 : Int32)), .val (.int (0 : Int32))] [(.int (1 : Int32))])) t
          refine XS.ifNo X24.here hx rfl (hb hby at_125) rfl ((if0 _ _).trans (feq (by decide : ¬ ((1 : Int32) = (0 : Int32)))).1) ?_
          show Steps p.tables e below (T24.setTop (mkF m 128 #[.val (.int p0), .val (.int p1), .val (.int p2), .val (.int p3), .val (.int p4), .val (.ref b1), .val (.int (1 : Int32)), .val (.int (p0 &&& (3 : Int32))), .val (.int (0 : Int32)), .val (.ref b16), .val (.int (p4 &&& (1 : Int32))), .val (.int (1 : Int32)), .val (.int (0 : Int32))] [])) t
          refine XS.iload X24.here hx rfl (hb hby at_128) rfl ?_
          show Steps p.tables e below (T24.setTop (mkF m 130 #[.val (.int p0), .val (.int p1), .val (.int p2), .val (.int p3), .val (.int p4), .val (.ref b1), .val (.int (1 : Int32)), .val (.int (p0 &&& (3 : Int32))), .val (.int (0 : Int32)), .val (.ref b16), .val (.int (p4 &&& (1 : Int32))), .val (.int (1 : Int32)), .val (.int (0 : Int32))] [(.int (0 : Int32))])) t
          refine XS.iload X24.here hx rfl (hb hby at_130) rfl ?_
          show Steps p.tables e below (T24.setTop (mkF m 132 #[.val (.int p0), .val (.int p1), .val (.int p2), .val (.int p3), .val (.int p4), .val (.ref b1), .val (.int (1 : Int32)), .val (.int (p0 &&& (3 : Int32))), .val (.int (0 : Int32)), .val (.ref b16), .val (.int (p4 &&& (1 : Int32))), .val (.int (1 : Int32)), .val (.int (0 : Int32))] [(.int (p0 &&& (3 : Int32))), (.int (0 : Int32))])) t
          refine XS.ifYes X24.here hx rfl (pc0 := 132) (pc' := 139) rfl (hb hby at_132) rfl ((if0 _ _).trans (feq (own_k1 hc24)).2) (by decide) (by decide) ?_
          show Steps p.tables e below (T24.setTop (mkF m 139 #[.val (.int p0), .val (.int p1), .val (.int p2), .val (.int p3), .val (.int p4), .val (.ref b1), .val (.int (1 : Int32)), .val (.int (p0 &&& (3 : Int32))), .val (.int (0 : Int32)), .val (.ref b16), .val (.int (p4 &&& (1 : Int32))), .val (.int (1 : Int32)), .val (.int (0 : Int32))] [(.int (0 : Int32))])) t
          refine XS.iconst X24.here hx rfl (hb hby at_139) ?_
          show Steps p.tables e below (T24.setTop (mkF m 140 #[.val (.int p0), .val (.int p1), .val (.int p2), .val (.int p3), .val (.int p4), .val (.ref b1), .val (.int (1 : Int32)), .val (.int (p0 &&& (3 : Int32))), .val (.int (0 : Int32)), .val (.ref b16), .val (.int (p4 &&& (1 : Int32))), .val (.int (1 : Int32)), .val (.int (0 : Int32))] [(.int (0 : Int32)), (.int (0 : Int32))])) t
          refine XS.icmpNo X24.here hx rfl (hb hby at_140) rfl (teq (by decide : (0 : Int32) = (0 : Int32))).2 ?_
          show Steps p.tables e below (T24.setTop (mkF m 143 #[.val (.int p0), .val (.int p1), .val (.int p2), .val (.int p3), .val (.int p4), .val (.ref b1), .val (.int (1 : Int32)), .val (.int (p0 &&& (3 : Int32))), .val (.int (0 : Int32)), .val (.ref b16), .val (.int (p4 &&& (1 : Int32))), .val (.int (1 : Int32)), .val (.int (0 : Int32))] [])) t
          refine XS.iload X24.here hx rfl (hb hby at_143) rfl ?_
          show Steps p.tables e below (T24.setTop (mkF m 145 #[.val (.int p0), .val (.int p1), .val (.int p2), .val (.int p3), .val (.int p4), .val (.ref b1), .val (.int (1 : Int32)), .val (.int (p0 &&& (3 : Int32))), .val (.int (0 : Int32)), .val (.ref b16), .val (.int (p4 &&& (1 : Int32))), .val (.int (1 : Int32)), .val (.int (0 : Int32))] [(.int (1 : Int32))])) t
          refine XS.iload X24.here hx rfl (hb hby at_145) rfl ?_
          show Steps p.tables e below (T24.setTop (mkF m 147 #[.val (.int p0), .val (.int p1), .val (.int p2), .val (.int p3), .val (.int p4), .val (.ref b1), .val (.int (1 : Int32)), .val (.int (p0 &&& (3 : Int32))), .val (.int (0 : Int32)), .val (.ref b16), .val (.int (p4 &&& (1 : Int32))), .val (.int (1 : Int32)), .val (.int (0 : Int32))] [(.int (p4 &&& (1 : Int32))), (.int (1 : Int32))])) t
          refine XS.ifNo X24.here hx rfl (hb hby at_147) rfl ((if0 _ _).trans (teq (own_j0 _ hc88)).2) ?_
          show Steps p.tables e below (T24.setTop (mkF m 150 #[.val (.int p0), .val (.int p1), .val (.int p2), .val (.int p3), .val (.int p4), .val (.ref b1), .val (.int (1 : Int32)), .val (.int (p0 &&& (3 : Int32))), .val (.int (0 : Int32)), .val (.ref b16), .val (.int (p4 &&& (1 : Int32))), .val (.int (1 : Int32)), .val (.int (0 : Int32))] [(.int (1 : Int32))])) t
          refine XS.iconst X24.here hx rfl (hb hby at_150) ?_
          show Steps p.tables e below (T24.setTop (mkF m 151 #[.val (.int p0), .val (.int p1), .val (.int p2), .val (.int p3), .val (.int p4), .val (.ref b1), .val (.int (1 : Int32)), .val (.int (p0 &&& (3 : Int32))), .val (.int (0 : Int32)), .val (.ref b16), .val (.int (p4 &&& (1 : Int32))), .val (.int (1 : Int32)), .val (.int (0 : Int32))] [(.int (1 : Int32)), (.int (1 : Int32))])) t
          refine XS.goto X24.here hx rfl (pc0 := 151) (pc' := 155) rfl (hb hby at_151) (by decide) (by decide) ?_
          show Steps p.tables e below (T24.setTop (mkF m 155 #[.val (.int p0), .val (.int p1), .val (.int p2), .val (.int p3), .val (.int p4), .val (.ref b1), .val (.int (1 : Int32)), .val (.int (p0 &&& (3 : Int32))), .val (.int (0 : Int32)), .val (.ref b16), .val (.int (p4 &&& (1 : Int32))), .val (.int (1 : Int32)), .val (.int (0 : Int32))] [(.int (1 : Int32)), (.int (1 : Int32))])) t
          refine XS.icmpNo X24.here hx rfl (hb hby at_155) rfl (teq (by decide : (1 : Int32) = (1 : Int32))).2 ?_
          show Steps p.tables e below (T24.setTop (mkF m 158 #[.val (.int p0), .val (.int p1), .val (.int p2), .val (.int p3), .val (.int p4), .val (.ref b1), .val (.int (1 : Int32)), .val (.int (p0 &&& (3 : Int32))), .val (.int (0 : Int32)), .val (.ref b16), .val (.int (p4 &&& (1 : Int32))), .val (.int (1 : Int32)), .val (.int (0 : Int32))] [])) t
          refine XS.iload X24.here hx rfl (hb hby at_158) rfl ?_
          show Steps p.tables e below (T24.setTop (mkF m 160 #[.val (.int p0), .val (.int p1), .val (.int p2), .val (.int p3), .val (.int p4), .val (.ref b1), .val (.int (1 : Int32)), .val (.int (p0 &&& (3 : Int32))), .val (.int (0 : Int32)), .val (.ref b16), .val (.int (p4 &&& (1 : Int32))), .val (.int (1 : Int32)), .val (.int (0 : Int32))] [(.int (0 : Int32))])) t
          refine XS.iload X24.here hx rfl (hb hby at_160) rfl ?_
          show Steps p.tables e below (T24.setTop (mkF m 162 #[.val (.int p0), .val (.int p1), .val (.int p2), .val (.int p3), .val (.int p4), .val (.ref b1), .val (.int (1 : Int32)), .val (.int (p0 &&& (3 : Int32))), .val (.int (0 : Int32)), .val (.ref b16), .val (.int (p4 &&& (1 : Int32))), .val (.int (1 : Int32)), .val (.int (0 : Int32))] [(.int (p0 &&& (3 : Int32))), (.int (0 : Int32))])) t
          refine XS.ifYes X24.here hx rfl (pc0 := 162) (pc' := 174) rfl (hb hby at_162) rfl ((if0 _ _).trans (feq (own_k1 hc24)).2) (by decide) (by decide) ?_
          show Steps p.tables e below (T24.setTop (mkF m 174 #[.val (.int p0), .val (.int p1), .val (.int p2), .val (.int p3), .val (.int p4), .val (.ref b1), .val (.int (1 : Int32)), .val (.int (p0 &&& (3 : Int32))), .val (.int (0 : Int32)), .val (.ref b16), .val (.int (p4 &&& (1 : Int32))), .val (.int (1 : Int32)), .val (.int (0 : Int32))] [(.int (0 : Int32))])) t
          refine XS.iconst X24.here hx rfl (hb hby at_174) ?_
          show Steps p.tables e below (T24.setTop (mkF m 175 #[.val (.int p0), .val (.int p1), .val (.int p2), .val (.int p3), .val (.int p4), .val (.ref b1), .val (.int (1 : Int32)), .val (.int (p0 &&& (3 : Int32))), .val (.int (0 : Int32)), .val (.ref b16), .val (.int (p4 &&& (1 : Int32))), .val (.int (1 : Int32)), .val (.int (0 : Int32))] [(.int (0 : Int32)), (.int (0 : Int32))])) t
          refine XS.icmpNo X24.here hx rfl (hb hby at_175) rfl (teq (by decide : (0 : Int32) = (0 : Int32))).2 ?_
          show Steps p.tables e below (T24.setTop (mkF m 178 #[.val (.int p0), .val (.int p1), .val (.int p2), .val (.int p3), .val (.int p4), .val (.ref b1), .val (.int (1 : Int32)), .val (.int (p0 &&& (3 : Int32))), .val (.int (0 : Int32)), .val (.ref b16), .val (.int (p4 &&& (1 : Int32))), .val (.int (1 : Int32)), .val (.int (0 : Int32))] [])) t
          refine XS.iconst X24.here hx rfl (hb hby at_178) ?_
          show Steps p.tables e below (T24.setTop (mkF m 179 #[.val (.int p0), .val (.int p1), .val (.int p2), .val (.int p3), .val (.int p4), .val (.ref b1), .val (.int (1 : Int32)), .val (.int (p0 &&& (3 : Int32))), .val (.int (0 : Int32)), .val (.ref b16), .val (.int (p4 &&& (1 : Int32))), .val (.int (1 : Int32)), .val (.int (0 : Int32))] [(.int (1 : Int32))])) t
          refine XS.goto X24.here hx rfl (pc0 := 179) (pc' := 183) rfl (hb hby at_179) (by decide) (by decide) ?_
          exact kt
        refine OGo.retZ X24 hx hlk (t := .boolean) (z' := (1 : Int32)) hret (by simp) (hb hby at_183) rfl ?_ (by decide) (by decide)
        show Q0 Z p0 p1 p2 p3 p4 h0 n0 _ T24.heap _
        rw [e24]
        exact ⟨(by rw [f0, if_neg hc24, if_pos hc38, if_neg hc88]), N24, KC23⟩
    · refine OGo.step (F' := T14.setTop (mkF m 41 #[.val (.int p0), .val (.int p1), .val (.int p2), .val (.int p3), .val (.int p4), .val (.ref b1), .val (.int (1 : Int32)), .val (.int (p0 &&& (3 : Int32))), .unset, .unset, .unset, .unset, .unset] [])) (fun t kt => ?_) ?_
      · show Steps p.tables e below (T14.setTop (mkF m 38 #[.val (.int p0), .val (.int p1), .val (.int p2), .val (.int p3), .val (.int p4), .val (.ref b1), .val (.int (1 : Int32)), .val (.int (p0 &&& (3 : Int32))), .unset, .unset, .unset, .unset, .unset] [(.int (2 : Int32)), (.int (p0 &&& (3 : Int32)))])) t
        refine XS.icmpNo X14.here hx rfl (hb hby at_38) rfl (flt hc38).1 ?_
        exact kt
      refine OGo.step (F' := T14.setTop (mkF m 46 #[.val (.int p0), .val (.int p1), .val (.int p2), .val (.int p3), .val (.int p4), .val (.ref b1), .val (.int (1 : Int32)), .val (.int (p0 &&& (3 : Int32))), .unset, .unset, .unset, .unset, .unset] [(.long ((p2.toInt16.toInt32).toInt64)), (.ref b1)])) (fun t kt => ?_) ?_
      · show Steps p.tables e below (T14.setTop (mkF m 41 #[.val (.int p0), .val (.int p1), .val (.int p2), .val (.int p3), .val (.int p4), .val (.ref b1), .val (.int (1 : Int32)), .val (.int (p0 &&& (3 : Int32))), .unset, .unset, .unset, .unset, .unset] [])) t
        refine XS.aload X14.here hx rfl (hb hby at_41) rfl rfl ?_
        show Steps p.tables e below (T14.setTop (mkF m 43 #[.val (.int p0), .val (.int p1), .val (.int p2), .val (.int p3), .val (.int p4), .val (.ref b1), .val (.int (1 : Int32)), .val (.int (p0 &&& (3 : Int32))), .unset, .unset, .unset, .unset, .unset] [(.ref b1)])) t
        refine XS.iloadN X14.here hx rfl (hb hby at_43) rfl ?_
        show Steps p.tables e below (T14.setTop (mkF m 44 #[.val (.int p0), .val (.int p1), .val (.int p2), .val (.int p3), .val (.int p4), .val (.ref b1), .val (.int (1 : Int32)), .val (.int (p0 &&& (3 : Int32))), .unset, .unset, .unset, .unset, .unset] [(.int p2), (.ref b1)])) t
        refine XS.i2s X14.here hx rfl (hb hby at_44) rfl ?_
        show Steps p.tables e below (T14.setTop (mkF m 45 #[.val (.int p0), .val (.int p1), .val (.int p2), .val (.int p3), .val (.int p4), .val (.ref b1), .val (.int (1 : Int32)), .val (.int (p0 &&& (3 : Int32))), .unset, .unset, .unset, .unset, .unset] [(.int (p2.toInt16.toInt32)), (.ref b1)])) t
        refine XS.i2l X14.here hx rfl (hb hby at_45) rfl ?_
        exact kt
      refine OGo.callV X14 hx hZ (y := (⟨"com/example/oddhands/oddhands/simulator/Sample", "add", "(J)V"⟩ : MethodName)) (z := (⟨"com/example/oddhands/oddhands/simulator/Sample", "add", "(J)V"⟩ : MethodName)) hown (own_wd hw 29 rfl) (own_wd hw 30 rfl) (notFace_of_selects (args := #[]) (mvT hZ (own_wd hw 32 rfl))) (own_wd hw 32 rfl) (own_wd hw 31 rfl) (own_wd hw 2 rfl) (own_wd hw 33 rfl) (by decide) (rm6 l Z az hw [] b1 ((p2.toInt16.toInt32).toInt64) (f7 (0 : Int64)) (f5 (0 : Int64) ((p1.toInt16.toInt32).toInt64)) (f5 (0 : Int64) (f8 ((p1.toInt16.toInt32).toInt64) ((p1.toInt16.toInt32).toInt64))) 1 T14.heap n0 (Nat.le_trans Z0 KC14.1) P14_1 P14_2 P14_3 (own_step 0 _ _ _ _ own_ok0 (own_sh16 _) (by decide)) (by decide) (own_sh16 _) P14_0 gn_b1) (W := 0) (by decide) (by decide) P14_0 (g := (mkF m 46 #[.val (.int p0), .val (.int p1), .val (.int p2), .val (.int p3), .val (.int p4), .val (.ref b1), .val (.int (1 : Int32)), .val (.int (p0 &&& (3 : Int32))), .unset, .unset, .unset, .unset, .unset] [(.long ((p2.toInt16.toInt32).toInt64)), (.ref b1)])) rfl (by rw [hml]; rfl) (argsL := [(.long ((p2.toInt16.toInt32).toInt64))]) (rest := []) (lenOf pd_0_2 rfl) rfl (by show 2 * 0 + _ ≤ _; exact Nat.le_of_eq rfl) (hb hby at_46) rfl rfl (by decide) (by decide) ?_
      rintro _ T25 L25 X25 ⟨rfl, Nq25, K25, P25_0, P25_1, P25_2, P25_3⟩
      have KC25 : Keep h0 T25.heap [] := KC14.trans K25 (allS (Or.inr sz_b1) all0)
      have N25 := Fr.app N14 Nq25
      show OGo _ _ _ _ _ _ _ (T25.setTop (mkF m 49 #[.val (.int p0), .val (.int p1), .val (.int p2), .val (.int p3), .val (.int p4), .val (.ref b1), .val (.int (1 : Int32)), .val (.int (p0 &&& (3 : Int32))), .unset, .unset, .unset, .unset, .unset] []))
      refine OGo.step (F' := T25.setTop (mkF m 52 #[.val (.int p0), .val (.int p1), .val (.int p2), .val (.int p3), .val (.int p4), .val (.ref b1), .val (.int (1 : Int32)), .val (.int (p0 &&& (3 : Int32))), .unset, .unset, .unset, .unset, .unset] [(.int (3 : Int32)), (.int (p0 &&& (3 : Int32)))])) (fun t kt => ?_) ?_
      · show Steps p.tables e below (T25.setTop (mkF m 49 #[.val (.int p0), .val (.int p1), .val (.int p2), .val (.int p3), .val (.int p4), .val (.ref b1), .val (.int (1 : Int32)), .val (.int (p0 &&& (3 : Int32))), .unset, .unset, .unset, .unset, .unset] [])) t
        refine XS.iload X25.here hx rfl (hb hby at_49) rfl ?_
        show Steps p.tables e below (T25.setTop (mkF m 51 #[.val (.int p0), .val (.int p1), .val (.int p2), .val (.int p3), .val (.int p4), .val (.ref b1), .val (.int (1 : Int32)), .val (.int (p0 &&& (3 : Int32))), .unset, .unset, .unset, .unset, .unset] [(.int (p0 &&& (3 : Int32)))])) t
        refine XS.iconst X25.here hx rfl (hb hby at_51) ?_
        exact kt
      by_cases hc52 : (p0 &&& (3 : Int32)) < (3 : Int32)
      · refine OGo.step (F' := T25.setTop (mkF m 63 #[.val (.int p0), .val (.int p1), .val (.int p2), .val (.int p3), .val (.int p4), .val (.ref b1), .val (.int (1 : Int32)), .val (.int (p0 &&& (3 : Int32))), .unset, .unset, .unset, .unset, .unset] [])) (fun t kt => ?_) ?_
        · show Steps p.tables e below (T25.setTop (mkF m 52 #[.val (.int p0), .val (.int p1), .val (.int p2), .val (.int p3), .val (.int p4), .val (.ref b1), .val (.int (1 : Int32)), .val (.int (p0 &&& (3 : Int32))), .unset, .unset, .unset, .unset, .unset] [(.int (3 : Int32)), (.int (p0 &&& (3 : Int32)))])) t
          refine XS.icmpYes X25.here hx rfl (pc0 := 52) (pc' := 63) rfl (hb hby at_52) rfl (tlt hc52).1 (by decide) (by decide) ?_
          exact kt
        refine OGo.step (F' := T25.setTop (mkF m 65 #[.val (.int p0), .val (.int p1), .val (.int p2), .val (.int p3), .val (.int p4), .val (.ref b1), .val (.int (1 : Int32)), .val (.int (p0 &&& (3 : Int32))), .unset, .unset, .unset, .unset, .unset] [(.ref b1)])) (fun t kt => ?_) ?_
        · show Steps p.tables e below (T25.setTop (mkF m 63 #[.val (.int p0), .val (.int p1), .val (.int p2), .val (.int p3), .val (.int p4), .val (.ref b1), .val (.int (1 : Int32)), .val (.int (p0 &&& (3 : Int32))), .unset, .unset, .unset, .unset, .unset] [])) t
          refine XS.aload X25.here hx rfl (hb hby at_63) rfl rfl ?_
          exact kt
        refine OGo.callV X25 hx hZ (y := (⟨"com/example/oddhands/oddhands/simulator/Sample", "isEmpty", "()Z"⟩ : MethodName)) (z := (⟨"com/example/oddhands/oddhands/simulator/Sample", "isEmpty", "()Z"⟩ : MethodName)) hown (own_wd hw 9 rfl) (own_wd hw 10 rfl) (notFace_of_selects (args := #[]) (mvT hZ (own_wd hw 12 rfl))) (own_wd hw 12 rfl) (own_wd hw 11 rfl) (own_wd hw 2 rfl) (own_wd hw 13 rfl) (by decide) (rm3 l Z az hw [] b1 (f7 (f7 (0 : Int64))) T25.heap n0 (Nat.le_trans Z0 KC25.1) P25_1) (W := 0) (by decide) (by decide) P25_0 (g := (mkF m 65 #[.val (.int p0), .val (.int p1), .val (.int p2), .val (.int p3), .val (.int p4), .val (.ref b1), .val (.int (1 : Int32)), .val (.int (p0 &&& (3 : Int32))), .unset, .unset, .unset, .unset, .unset] [(.ref b1)])) rfl (by rw [hml]; rfl) (argsL := []) (rest := []) (lenOf pd_0_1 rfl) rfl (by show 2 * 0 + _ ≤ _; exact Nat.le_of_eq rfl) (hb hby at_65) rfl rfl (by decide) (by decide) ?_
        rintro _ T26 L26 X26 ⟨hv26, Nq26, e26⟩
        have N26 := Fr.app N25 Nq26
        rw [show (f3 (f7 (f7 (0 : Int64)))) = (0 : Int32) from by decide] at hv26
        subst hv26
        show OGo _ _ _ _ _ _ _ (T26.setTop (mkF m 68 #[.val (.int p0), .val (.int p1), .val (.int p2), .val (.int p3), .val (.int p4), .val (.ref b1), .val (.int (1 : Int32)), .val (.int (p0 &&& (3 : Int32))), .unset, .unset, .unset, .unset, .unset] [(.int (0 : Int32))]))
        refine OGo.step (F' := T26.setTop (mkF m 70 #[.val (.int p0), .val (.int p1), .val (.int p2), .val (.int p3), .val (.int p4), .val (.ref b1), .val (.int (1 : Int32)), .val (.int (p0 &&& (3 : Int32))), .val (.int (0 : Int32)), .unset, .unset, .unset, .unset] [])) (fun t kt => ?_) ?_
        · show Steps p.tables e below (T26.setTop (mkF m 68 #[.val (.int p0), .val (.int p1), .val (.int p2), .val (.int p3), .val (.int p4), .val (.ref b1), .val (.int (1 : Int32)), .val (.int (p0 &&& (3 : Int32))), .unset, .unset, .unset, .unset, .unset] [(.int (0 : Int32))])) t
          refine XS.istore X26.here hx rfl (hb hby at_68) rfl (l' := #[.val (.int p0), .val (.int p1), .val (.int p2), .val (.int p3), .val (.int p4), .val (.ref b1), .val (.int (1 : Int32)), .val (.int (p0 &&& (3 : Int32))), .val (.int (0 : Int32)), .unset, .unset, .unset, .unset]) rfl ?_
          exact kt
        obtain ⟨T27, h27, X27, e27, E27, A27, D27, -, st27⟩ := newO X26 hx hZ hown (own_wd hw 0 rfl) (own_wd hw 1 rfl) (own_wd hw 2 rfl) e26 (g := (mkF m 70 #[.val (.int p0), .val (.int p1), .val (.int p2), .val (.int p3), .val (.int p4), .val (.ref b1), .val (.int (1 : Int32)), .val (.int (p0 &&& (3 : Int32))), .val (.int (0 : Int32)), .unset, .unset, .unset, .unset] [])) rfl (hb hby at_70) (by decide) (by decide)
        obtain ⟨b27, g27⟩ : ∃ z, z = T25.heap.size := ⟨_, rfl⟩
        rw [← g27] at A27 D27 st27
        have sz_b27 : h0.size ≤ b27 := Nat.le_trans KC25.1 (Nat.le_of_eq g27.symm)
        have gn_b27 : n0 ≤ b27 := Nat.le_trans Z0 sz_b27
        have KC27 : Keep h0 h27 [] := KC25.ext E27
        have F27_size : Fld Z h27 b27 "com/example/oddhands/oddhands/simulator/Sample" "size" "J" (.long (0 : Int64)) := D27 (Or.inl (own_wd hw 15 rfl)) (ty := .long) (by decide)
        have F27_sum : Fld Z h27 b27 "com/example/oddhands/oddhands/simulator/Sample" "sum" "J" (.long (0 : Int64)) := D27 (Or.inl (own_wd hw 26 rfl)) (ty := .long) (by decide)
        have F27_sumOfSquares : Fld Z h27 b27 "com/example/oddhands/oddhands/simulator/Sample" "sumOfSquares" "J" (.long (0 : Int64)) := D27 (Or.inl (own_wd hw 28 rfl)) (ty := .long) (by decide)
        refine OGo.step st27 ?_
        show OGo _ _ _ _ _ _ _ (T27.setTop (mkF m 73 #[.val (.int p0), .val (.int p1), .val (.int p2), .val (.int p3), .val (.int p4), .val (.ref b1), .val (.int (1 : Int32)), .val (.int (p0 &&& (3 : Int32))), .val (.int (0 : Int32)), .unset, .unset, .unset, .unset] [(.ref b27)]))
        refine OGo.step (F' := T27.setTop (mkF m 74 #[.val (.int p0), .val (.int p1), .val (.int p2), .val (.int p3), .val (.int p4), .val (.ref b1), .val (.int (1 : Int32)), .val (.int (p0 &&& (3 : Int32))), .val (.int (0 : Int32)), .unset, .unset, .unset, .unset] [(.ref b27), (.ref b27)])) (fun t kt => ?_) ?_
        · show Steps p.tables e below (T27.setTop (mkF m 73 #[.val (.int p0), .val (.int p1), .val (.int p2), .val (.int p3), .val (.int p4), .val (.ref b1), .val (.int (1 : Int32)), .val (.int (p0 &&& (3 : Int32))), .val (.int (0 : Int32)), .unset, .unset, .unset, .unset] [(.ref b27)])) t
          refine XS.dup X27.here hx rfl (hb hby at_73) rfl rfl ?_
          exact kt
        refine OGo.callC X27 hx hZ (y := (⟨"com/example/oddhands/oddhands/simulator/Sample", "<init>", "()V"⟩ : MethodName)) rfl hown (own_wd hw 3 rfl) (own_wd hw 4 rfl) (own_wd hw 2 rfl) (own_wd hw 5 rfl) (by decide) (rm1 l Z az hw [] b27 h27 n0 (Nat.le_trans Z0 KC27.1)) (W := 1) (by decide) (by decide) (b := b27) (g := (mkF m 74 #[.val (.int p0), .val (.int p1), .val (.int p2), .val (.int p3), .val (.int p4), .val (.ref b1), .val (.int (1 : Int32)), .val (.int (p0 &&& (3 : Int32))), .val (.int (0 : Int32)), .unset, .unset, .unset, .unset] [(.ref b27), (.ref b27)])) rfl (by rw [hml]; rfl) (argsL := []) (rest := [(.ref b27)]) (lenOf pd_0_0 rfl) rfl (by show 2 * 0 + _ ≤ _; exact Nat.le_of_eq rfl) (hb hby at_74) rfl e27 (by decide) (by decide) ?_
        rintro _ T28 L28 X28 ⟨rfl, Nq28, e28⟩
        have N28 := Fr.app N26 Nq28
        show OGo _ _ _ _ _ _ _ (T28.setTop (mkF m 77 #[.val (.int p0), .val (.int p1), .val (.int p2), .val (.int p3), .val (.int p4), .val (.ref b1), .val (.int (1 : Int32)), .val (.int (p0 &&& (3 : Int32))), .val (.int (0 : Int32)), .unset, .unset, .unset, .unset] [(.ref b27)]))
        refine OGo.step (F' := T28.setTop (mkF m 88 #[.val (.int p0), .val (.int p1), .val (.int p2), .val (.int p3), .val (.int p4), .val (.ref b1), .val (.int (1 : Int32)), .val (.int (p0 &&& (3 : Int32))), .val (.int (0 : Int32)), .val (.ref b27), .val (.int (p4 &&& (1 : Int32))), .unset, .unset] [(.int (1 : Int32)), (.int (p4 &&& (1 : Int32)))])) (fun t kt => ?_) ?_
        · show Steps p.tables e below (T28.setTop (mkF m 77 #[.val (.int p0), .val (.int p1), .val (.int p2), .val (.int p3), .val (.int p4), .val (.ref b1), .val (.int (1 : Int32)), .val (.int (p0 &&& (3 : Int32))), .val (.int (0 : Int32)), .unset, .unset, .unset, .unset] [(.ref b27)])) t
          refine XS.astore X28.here hx rfl (hb hby at_77) rfl rfl (l' := #[.val (.int p0), .val (.int p1), .val (.int p2), .val (.int p3), .val (.int p4), .val (.ref b1), .val (.int (1 : Int32)), .val (.int (p0 &&& (3 : Int32))), .val (.int (0 : Int32)), .val (.ref b27), .unset, .unset, .unset]) rfl ?_
          show Steps p.tables e below (T28.setTop (mkF m 79 #[.val (.int p0), .val (.int p1), .val (.int p2), .val (.int p3), .val (.int p4), .val (.ref b1), .val (.int (1 : Int32)), .val (.int (p0 &&& (3 : Int32))), .val (.int (0 : Int32)), .val (.ref b27), .unset, .unset, .unset] [])) t
          refine XS.iload X28.here hx rfl (hb hby at_79) rfl ?_
          show Steps p.tables e below (T28.setTop (mkF m 81 #[.val (.int p0), .val (.int p1), .val (.int p2), .val (.int p3), .val (.int p4), .val (.ref b1), .val (.int (1 : Int32)), .val (.int (p0 &&& (3 : Int32))), .val (.int (0 : Int32)), .val (.ref b27), .unset, .unset, .unset] [(.int p4)])) t
          refine XS.iconst X28.here hx rfl (hb hby at_81) ?_
          show Steps p.tables e below (T28.setTop (mkF m 82 #[.val (.int p0), .val (.int p1), .val (.int p2), .val (.int p3), .val (.int p4), .val (.ref b1), .val (.int (1 : Int32)), .val (.int (p0 &&& (3 : Int32))), .val (.int (0 : Int32)), .val (.ref b27), .unset, .unset, .unset] [(.int (1 : Int32)), (.int p4)])) t
          refine XS.iand X28.here hx rfl (hb hby at_82) rfl ?_
          show Steps p.tables e below (T28.setTop (mkF m 83 #[.val (.int p0), .val (.int p1), .val (.int p2), .val (.int p3), .val (.int p4), .val (.ref b1), .val (.int (1 : Int32)), .val (.int (p0 &&& (3 : Int32))), .val (.int (0 : Int32)), .val (.ref b27), .unset, .unset, .unset] [(.int (p4 &&& (1 : Int32)))])) t
          refine XS.istore X28.here hx rfl (hb hby at_83) rfl (l' := #[.val (.int p0), .val (.int p1), .val (.int p2), .val (.int p3), .val (.int p4), .val (.ref b1), .val (.int (1 : Int32)), .val (.int (p0 &&& (3 : Int32))), .val (.int (0 : Int32)), .val (.ref b27), .val (.int (p4 &&& (1 : Int32))), .unset, .unset]) rfl ?_
          show Steps p.tables e below (T28.setTop (mkF m 85 #[.val (.int p0), .val (.int p1), .val (.int p2), .val (.int p3), .val (.int p4), .val (.ref b1), .val (.int (1 : Int32)), .val (.int (p0 &&& (3 : Int32))), .val (.int (0 : Int32)), .val (.ref b27), .val (.int (p4 &&& (1 : Int32))), .unset, .unset] [])) t
          refine XS.iload X28.here hx rfl (hb hby at_85) rfl ?_
          show Steps p.tables e below (T28.setTop (mkF m 87 #[.val (.int p0), .val (.int p1), .val (.int p2), .val (.int p3), .val (.int p4), .val (.ref b1), .val (.int (1 : Int32)), .val (.int (p0 &&& (3 : Int32))), .val (.int (0 : Int32)), .val (.ref b27), .val (.int (p4 &&& (1 : Int32))), .unset, .unset] [(.int (p4 &&& (1 : Int32)))])) t
          refine XS.iconst X28.here hx rfl (hb hby at_87) ?_
          exact kt
        by_cases hc88 : (p4 &&& (1 : Int32)) = (1 : Int32)
        · refine OGo.step (F' := T28.setTop (mkF m 91 #[.val (.int p0), .val (.int p1), .val (.int p2), .val (.int p3), .val (.int p4), .val (.ref b1), .val (.int (1 : Int32)), .val (.int (p0 &&& (3 : Int32))), .val (.int (0 : Int32)), .val (.ref b27), .val (.int (p4 &&& (1 : Int32))), .unset, .unset] [])) (fun t kt => ?_) ?_
          · show Steps p.tables e below (T28.setTop (mkF m 88 #[.val (.int p0), .val (.int p1), .val (.int p2), .val (.int p3), .val (.int p4), .val (.ref b1), .val (.int (1 : Int32)), .val (.int (p0 &&& (3 : Int32))), .val (.int (0 : Int32)), .val (.ref b27), .val (.int (p4 &&& (1 : Int32))), .unset, .unset] [(.int (1 : Int32)), (.int (p4 &&& (1 : Int32)))])) t
            refine XS.icmpNo X28.here hx rfl (hb hby at_88) rfl (teq hc88).2 ?_
            exact kt
          refine OGo.step (F' := T28.setTop (mkF m 99 #[.val (.int p0), .val (.int p1), .val (.int p2), .val (.int p3), .val (.int p4), .val (.ref b1), .val (.int (1 : Int32)), .val (.int (p0 &&& (3 : Int32))), .val (.int (0 : Int32)), .val (.ref b27), .val (.int (p4 &&& (1 : Int32))), .unset, .unset] [(.long (((p4 >>> ((1 : Int32) &&& 31)).toInt16.toInt32).toInt64)), (.ref b27)])) (fun t kt => ?_) ?_
          · show Steps p.tables e below (T28.setTop (mkF m 91 #[.val (.int p0), .val (.int p1), .val (.int p2), .val (.int p3), .val (.int p4), .val (.ref b1), .val (.int (1 : Int32)), .val (.int (p0 &&& (3 : Int32))), .val (.int (0 : Int32)), .val (.ref b27), .val (.int (p4 &&& (1 : Int32))), .unset, .unset] [])) t
            refine XS.aload X28.here hx rfl (hb hby at_91) rfl rfl ?_
            show Steps p.tables e below (T28.setTop (mkF m 93 #[.val (.int p0), .val (.int p1), .val (.int p2), .val (.int p3), .val (.int p4), .val (.ref b1), .val (.int (1 : Int32)), .val (.int (p0 &&& (3 : Int32))), .val (.int (0 : Int32)), .val (.ref b27), .val (.int (p4 &&& (1 : Int32))), .unset, .unset] [(.ref b27)])) t
            refine XS.iload X28.here hx rfl (hb hby at_93) rfl ?_
            show Steps p.tables e below (T28.setTop (mkF m 95 #[.val (.int p0), .val (.int p1), .val (.int p2), .val (.int p3), .val (.int p4), .val (.ref b1), .val (.int (1 : Int32)), .val (.int (p0 &&& (3 : Int32))), .val (.int (0 : Int32)), .val (.ref b27), .val (.int (p4 &&& (1 : Int32))), .unset, .unset] [(.int p4), (.ref b27)])) t
            refine XS.iconst X28.here hx rfl (hb hby at_95) ?_
            show Steps p.tables e below (T28.setTop (mkF m 96 #[.val (.int p0), .val (.int p1), .val (.int p2), .val (.int p3), .val (.int p4), .val (.ref b1), .val (.int (1 : Int32)), .val (.int (p0 &&& (3 : Int32))), .val (.int (0 : Int32)), .val (.ref b27), .val (.int (p4 &&& (1 : Int32))), .unset, .unset] [(.int (1 : Int32)), (.int p4), (.ref b27)])) t
            refine XS.ishr X28.here hx rfl (hb hby at_96) rfl ?_
            show Steps p.tables e below (T28.setTop (mkF m 97 #[.val (.int p0), .val (.int p1), .val (.int p2), .val (.int p3), .val (.int p4), .val (.ref b1), .val (.int (1 : Int32)), .val (.int (p0 &&& (3 : Int32))), .val (.int (0 : Int32)), .val (.ref b27), .val (.int (p4 &&& (1 : Int32))), .unset, .unset] [(.int (p4 >>> ((1 : Int32) &&& 31))), (.ref b27)])) t
            refine XS.i2s X28.here hx rfl (hb hby at_97) rfl ?_
            show Steps p.tables e below (T28.setTop (mkF m 98 #[.val (.int p0), .val (.int p1), .val (.int p2), .val (.int p3), .val (.int p4), .val (.ref b1), .val (.int (1 : Int32)), .val (.int (p0 &&& (3 : Int32))), .val (.int (0 : Int32)), .val (.ref b27), .val (.int (p4 &&& (1 : Int32))), .unset, .unset] [(.int ((p4 >>> ((1 : Int32) &&& 31)).toInt16.toInt32)), (.ref b27)])) t
            refine XS.i2l X28.here hx rfl (hb hby at_98) rfl ?_
            exact kt
          refine OGo.callV X28 hx hZ (y := (⟨"com/example/oddhands/oddhands/simulator/Sample", "add", "(J)V"⟩ : MethodName)) (z := (⟨"com/example/oddhands/oddhands/simulator/Sample", "add", "(J)V"⟩ : MethodName)) hown (own_wd hw 29 rfl) (own_wd hw 30 rfl) (notFace_of_selects (args := #[]) (mvT hZ (own_wd hw 32 rfl))) (own_wd hw 32 rfl) (own_wd hw 31 rfl) (own_wd hw 2 rfl) (own_wd hw 33 rfl) (by decide) (rm6 l Z az hw [] b27 (((p4 >>> ((1 : Int32) &&& 31)).toInt16.toInt32).toInt64) (0 : Int64) (0 : Int64) (0 : Int64) 0 h27 n0 (Nat.le_trans Z0 KC27.1) F27_size F27_sum F27_sumOfSquares own_ok0 (by decide) (own_sh16 _) A27 gn_b27) (W := 0) (by decide) (by decide) A27 (g := (mkF m 99 #[.val (.int p0), .val (.int p1), .val (.int p2), .val (.int p3), .val (.int p4), .val (.ref b1), .val (.int (1 : Int32)), .val (.int (p0 &&& (3 : Int32))), .val (.int (0 : Int32)), .val (.ref b27), .val (.int (p4 &&& (1 : Int32))), .unset, .unset] [(.long (((p4 >>> ((1 : Int32) &&& 31)).toInt16.toInt32).toInt64)), (.ref b27)])) rfl (by rw [hml]; rfl) (argsL := [(.long (((p4 >>> ((1 : Int32) &&& 31)).toInt16.toInt32).toInt64))]) (rest := []) (lenOf pd_0_2 rfl) rfl (by show 2 * 0 + _ ≤ _; exact Nat.le_of_eq rfl) (hb hby at_99) rfl e28 (by decide) (by decide) ?_
          rintro _ T29 L29 X29 ⟨rfl, Nq29, K29, P29_0, P29_1, P29_2, P29_3⟩
          have KC29 : Keep h0 T29.heap [] := KC27.trans K29 (allS (Or.inr sz_b27) all0)
          have N29 := Fr.app N28 Nq29
          show OGo _ _ _ _ _ _ _ (T29.setTop (mkF m 102 #[.val (.int p0), .val (.int p1), .val (.int p2), .val (.int p3), .val (.int p4), .val (.ref b1), .val (.int (1 : Int32)), .val (.int (p0 &&& (3 : Int32))), .val (.int (0 : Int32)), .val (.ref b27), .val (.int (p4 &&& (1 : Int32))), .unset, .unset] []))
          refine OGo.step (F' := T29.setTop (mkF m 104 #[.val (.int p0), .val (.int p1), .val (.int p2), .val (.int p3), .val (.int p4), .val (.ref b1), .val (.int (1 : Int32)), .val (.int (p0 &&& (3 : Int32))), .val (.int (0 : Int32)), .val (.ref b27), .val (.int (p4 &&& (1 : Int32))), .unset, .unset] [(.ref b27)])) (fun t kt => ?_) ?_
          · show Steps p.tables e below (T29.setTop (mkF m 102 #[.val (.int p0), .val (.int p1), .val (.int p2), .val (.int p3), .val (.int p4), .val (.ref b1), .val (.int (1 : Int32)), .val (.int (p0 &&& (3 : Int32))), .val (.int (0 : Int32)), .val (.ref b27), .val (.int (p4 &&& (1 : Int32))), .unset, .unset] [])) t
            refine XS.aload X29.here hx rfl (hb hby at_102) rfl rfl ?_
            exact kt
          refine OGo.callV X29 hx hZ (y := (⟨"com/example/oddhands/oddhands/simulator/Sample", "isEmpty", "()Z"⟩ : MethodName)) (z := (⟨"com/example/oddhands/oddhands/simulator/Sample", "isEmpty", "()Z"⟩ : MethodName)) hown (own_wd hw 9 rfl) (own_wd hw 10 rfl) (notFace_of_selects (args := #[]) (mvT hZ (own_wd hw 12 rfl))) (own_wd hw 12 rfl) (own_wd hw 11 rfl) (own_wd hw 2 rfl) (own_wd hw 13 rfl) (by decide) (rm3 l Z az hw [] b27 (f7 (0 : Int64)) T29.heap n0 (Nat.le_trans Z0 KC29.1) P29_1) (W := 0) (by decide) (by decide) P29_0 (g := (mkF m 104 #[.val (.int p0), .val (.int p1), .val (.int p2), .val (.int p3), .val (.int p4), .val (.ref b1), .val (.int (1 : Int32)), .val (.int (p0 &&& (3 : Int32))), .val (.int (0 : Int32)), .val (.ref b27), .val (.int (p4 &&& (1 : Int32))), .unset, .unset] [(.ref b27)])) rfl (by rw [hml]; rfl) (argsL := []) (rest := []) (lenOf pd_0_1 rfl) rfl (by show 2 * 0 + _ ≤ _; exact Nat.le_of_eq rfl) (hb hby at_104) rfl rfl (by decide) (by decide) ?_
          rintro _ T30 L30 X30 ⟨hv30, Nq30, e30⟩
          have N30 := Fr.app N29 Nq30
          rw [show (f3 (f7 (0 : Int64))) = (0 : Int32) from by decide] at hv30
          subst hv30
          show OGo _ _ _ _ _ _ _ (T30.setTop (mkF m 107 #[.val (.int p0), .val (.int p1), .val (.int p2), .val (.int p3), .val (.int p4), .val (.ref b1), .val (.int (1 : Int32)), .val (.int (p0 &&& (3 : Int32))), .val (.int (0 : Int32)), .val (.ref b27), .val (.int (p4 &&& (1 : Int32))), .unset, .unset] [(.int (0 : Int32))]))
          refine OGo.step (F' := T30.setTop (mkF m 113 #[.val (.int p0), .val (.int p1), .val (.int p2), .val (.int p3), .val (.int p4), .val (.ref b1), .val (.int (1 : Int32)), .val (.int (p0 &&& (3 : Int32))), .val (.int (0 : Int32)), .val (.ref b27), .val (.int (p4 &&& (1 : Int32))), .val (.int (0 : Int32)), .unset] [(.ref b27), (.ref b1)])) (fun t kt => ?_) ?_
          · show Steps p.tables e below (T30.setTop (mkF m 107 #[.val (.int p0), .val (.int p1), .val (.int p2), .val (.int p3), .val (.int p4), .val (.ref b1), .val (.int (1 : Int32)), .val (.int (p0 &&& (3 : Int32))), .val (.int (0 : Int32)), .val (.ref b27), .val (.int (p4 &&& (1 : Int32))), .unset, .unset] [(.int (0 : Int32))])) t
            refine XS.istore X30.here hx rfl (hb hby at_107) rfl (l' := #[.val (.int p0), .val (.int p1), .val (.int p2), .val (.int p3), .val (.int p4), .val (.ref b1), .val (.int (1 : Int32)), .val (.int (p0 &&& (3 : Int32))), .val (.int (0 : Int32)), .val (.ref b27), .val (.int (p4 &&& (1 : Int32))), .val (.int (0 : Int32)), .unset]) rfl ?_
            show Steps p.tables e below (T30.setTop (mkF m 109 #[.val (.int p0), .val (.int p1), .val (.int p2), .val (.int p3), .val (.int p4), .val (.ref b1), .val (.int (1 : Int32)), .val (.int (p0 &&& (3 : Int32))), .val (.int (0 : Int32)), .val (.ref b27), .val (.int (p4 &&& (1 : Int32))), .val (.int (0 : Int32)), .unset] [])) t
            refine XS.aload X30.here hx rfl (hb hby at_109) rfl rfl ?_
            show Steps p.tables e below (T30.setTop (mkF m 111 #[.val (.int p0), .val (.int p1), .val (.int p2), .val (.int p3), .val (.int p4), .val (.ref b1), .val (.int (1 : Int32)), .val (.int (p0 &&& (3 : Int32))), .val (.int (0 : Int32)), .val (.ref b27), .val (.int (p4 &&& (1 : Int32))), .val (.int (0 : Int32)), .unset] [(.ref b1)])) t
            refine XS.aload X30.here hx rfl (hb hby at_111) rfl rfl ?_
            exact kt
          refine OGo.callV X30 hx hZ (y := (⟨"com/example/oddhands/oddhands/simulator/Sample", "add", "(Lcom/example/oddhands/oddhands/simulator/Sample;)V"⟩ : MethodName)) (z := (⟨"com/example/oddhands/oddhands/simulator/Sample", "add", "(Lcom/example/oddhands/oddhands/simulator/Sample;)V"⟩ : MethodName)) hown (own_wd hw 16 rfl) (own_wd hw 17 rfl) (notFace_of_selects (args := #[]) (mvT hZ (own_wd hw 19 rfl))) (own_wd hw 19 rfl) (own_wd hw 18 rfl) (own_wd hw 2 rfl) (own_wd hw 20 rfl) (by decide) (rm4 l Z az hw [] b1 b27 (f7 (f7 (0 : Int64))) (f5 (f5 (0 : Int64) ((p1.toInt16.toInt32).toInt64)) ((p2.toInt16.toInt32).toInt64)) (f5 (f5 (0 : Int64) (f8 ((p1.toInt16.toInt32).toInt64) ((p1.toInt16.toInt32).toInt64))) (f8 ((p2.toInt16.toInt32).toInt64) ((p2.toInt16.toInt32).toInt64))) (f7 (0 : Int64)) (f5 (0 : Int64) (((p4 >>> ((1 : Int32) &&& 31)).toInt16.toInt32).toInt64)) (f5 (0 : Int64) (f8 (((p4 >>> ((1 : Int32) &&& 31)).toInt16.toInt32).toInt64) (((p4 >>> ((1 : Int32) &&& 31)).toInt16.toInt32).toInt64))) 2 1 T29.heap n0 (Nat.le_trans Z0 KC29.1) ((P25_1.ext E27).keep K29 (ninS (Nat.ne_of_lt (Nat.lt_of_lt_of_le P25_0.lt (Nat.le_of_eq g27.symm))) nin0)) ((P25_2.ext E27).keep K29 (ninS (Nat.ne_of_lt (Nat.lt_of_lt_of_le P25_0.lt (Nat.le_of_eq g27.symm))) nin0)) ((P25_3.ext E27).keep K29 (ninS (Nat.ne_of_lt (Nat.lt_of_lt_of_le P25_0.lt (Nat.le_of_eq g27.symm))) nin0)) P29_1 P29_2 P29_3 (own_step 1 _ _ _ _ (own_step 0 _ _ _ _ own_ok0 (own_sh16 _) (by decide)) (own_sh16 _) (by decide)) (own_step 0 _ _ _ _ own_ok0 (own_sh16 _) (by decide)) (by decide) (by decide) (Ne.symm (Nat.ne_of_lt (Nat.lt_of_lt_of_le P25_0.lt (Nat.le_of_eq g27.symm)))) ((P25_0.ext E27).keep K29) gn_b1) (W := 0) (by decide) (by decide) ((P25_0.ext E27).keep K29) (g := (mkF m 113 #[.val (.int p0), .val (.int p1), .val (.int p2), .val (.int p3), .val (.int p4), .val (.ref b1), .val (.int (1 : Int32)), .val (.int (p0 &&& (3 : Int32))), .val (.int (0 : Int32)), .val (.ref b27), .val (.int (p4 &&& (1 : Int32))), .val (.int (0 : Int32)), .unset] [(.ref b27), (.ref b1)])) rfl (by rw [hml]; rfl) (argsL := [(.ref b27)]) (rest := []) (lenOf pd_0_3 rfl) rfl (by show 2 * 0 + _ ≤ _; exact Nat.le_of_eq rfl) (hb hby at_113) rfl e30 (by decide) (by decide) ?_
          rintro _ T31 L31 X31 ⟨rfl, Nq31, K31, P31_0, P31_1⟩
          have KC31 : Keep h0 T31.heap [] := KC29.trans K31 (allS (Or.inr sz_b1) all0)
          have N31 := Fr.app N30 Nq31
          show OGo _ _ _ _ _ _ _ (T31.setTop (mkF m 116 #[.val (.int p0), .val (.int p1), .val (.int p2), .val (.int p3), .val (.int p4), .val (.ref b1), .val (.int (1 : Int32)), .val (.int (p0 &&& (3 : Int32))), .val (.int (0 : Int32)), .val (.ref b27), .val (.int (p4 &&& (1 : Int32))), .val (.int (0 : Int32)), .unset] []))
          refine OGo.step (F' := T31.setTop (mkF m 118 #[.val (.int p0), .val (.int p1), .val (.int p2), .val (.int p3), .val (.int p4), .val (.ref b1), .val (.int (1 : Int32)), .val (.int (p0 &&& (3 : Int32))), .val (.int (0 : Int32)), .val (.ref b27), .val (.int (p4 &&& (1 : Int32))), .val (.int (0 : Int32)), .unset] [(.ref b1)])) (fun t kt => ?_) ?_
          · show Steps p.tables e below (T31.setTop (mkF m 116 #[.val (.int p0), .val (.int p1), .val (.int p2), .val (.int p3), .val (.int p4), .val (.ref b1), .val (.int (1 : Int32)), .val (.int (p0 &&& (3 : Int32))), .val (.int (0 : Int32)), .val (.ref b27), .val (.int (p4 &&& (1 : Int32))), .val (.int (0 : Int32)), .unset] [])) t
            refine XS.aload X31.here hx rfl (hb hby at_116) rfl rfl ?_
            exact kt
          refine OGo.callV X31 hx hZ (y := (⟨"com/example/oddhands/oddhands/simulator/Sample", "isEmpty", "()Z"⟩ : MethodName)) (z := (⟨"com/example/oddhands/oddhands/simulator/Sample", "isEmpty", "()Z"⟩ : MethodName)) hown (own_wd hw 9 rfl) (own_wd hw 10 rfl) (notFace_of_selects (args := #[]) (mvT hZ (own_wd hw 12 rfl))) (own_wd hw 12 rfl) (own_wd hw 11 rfl) (own_wd hw 2 rfl) (own_wd hw 13 rfl) (by decide) (rm3 l Z az hw [] b1 (f5 (f7 (f7 (0 : Int64))) (f7 (0 : Int64))) T31.heap n0 (Nat.le_trans Z0 KC31.1) P31_1) (W := 0) (by decide) (by decide) P31_0 (g := (mkF m 118 #[.val (.int p0), .val (.int p1), .val (.int p2), .val (.int p3), .val (.int p4), .val (.ref b1), .val (.int (1 : Int32)), .val (.int (p0 &&& (3 : Int32))), .val (.int (0 : Int32)), .val (.ref b27), .val (.int (p4 &&& (1 : Int32))), .val (.int (0 : Int32)), .unset] [(.ref b1)])) rfl (by rw [hml]; rfl) (argsL := []) (rest := []) (lenOf pd_0_1 rfl) rfl (by show 2 * 0 + _ ≤ _; exact Nat.le_of_eq rfl) (hb hby at_118) rfl rfl (by decide) (by decide) ?_
          rintro _ T32 L32 X32 ⟨hv32, Nq32, e32⟩
          have N32 := Fr.app N31 Nq32
          rw [show (f3 (f5 (f7 (f7 (0 : Int64))) (f7 (0 : Int64)))) = (0 : Int32) from by decide] at hv32
          subst hv32
          show OGo _ _ _ _ _ _ _ (T32.setTop (mkF m 121 #[.val (.int p0), .val (.int p1), .val (.int p2), .val (.int p3), .val (.int p4), .val (.ref b1), .val (.int (1 : Int32)), .val (.int (p0 &&& (3 : Int32))), .val (.int (0 : Int32)), .val (.ref b27), .val (.int (p4 &&& (1 : Int32))), .val (.int (0 : Int32)), .unset] [(.int (0 : Int32))]))
          refine OGo.step (F' := T32.setTop (mkF m 183 #[.val (.int p0), .val (.int p1), .val (.int p2), .val (.int p3), .val (.int p4), .val (.ref b1), .val (.int (1 : Int32)), .val (.int (p0 &&& (3 : Int32))), .val (.int (0 : Int32)), .val (.ref b27), .val (.int (p4 &&& (1 : Int32))), .val (.int (0 : Int32)), .val (.int (0 : Int32))] [(.int (1 : Int32))])) (fun t kt => ?_) ?_
          · show Steps p.tables e below (T32.setTop (mkF m 121 #[.val (.int p0), .val (.int p1), .val (.int p2), .val (.int p3), .val (.int p4), .val (.ref b1), .val (.int (1 : Int32)), .val (.int (p0 &&& (3 : Int32))), .val (.int (0 : Int32)), .val (.ref b27), .val (.int (p4 &&& (1 : Int32))), .val (.int (0 : Int32)), .unset] [(.int (0 : Int32))])) t
            refine XS.istore X32.here hx rfl (hb hby at_121) rfl (l' := #[.val (.int p0), .val (.int p1), .val (.int p2), .val (.int p3), .val (.int p4), .val (.ref b1), .val (.int (1 : Int32)), .val (.int (p0 &&& (3 : Int32))), .val (.int (0 : Int32)), .val (.ref b27), .val (.int (p4 &&& (1 : Int32))), .val (.int (0 : Int32)), .val (.int (0 : Int32))]) rfl ?_
            show Steps p.tables e below (T32.setTop (mkF m 123 #[.val (.int p0), .val (.int p1), .val (.int p2), .val (.int p3), .val (.int p4), .val (.ref b1), .val (.int (1 : Int32)), .val (.int (p0 &&& (3 : Int32))), .val (.int (0 : Int32)), .val (.ref b27), .val (.int (p4 &&& (1 : Int32))), .val (.int (0 : Int32)), .val (.int (0 : Int32))] [])) t
            refine XS.iload X32.here hx rfl (hb hby at_123) rfl ?_
            show Steps p.tables e below (T32.setTop (mkF m 125 #[.val (.int p0), .val (.int p1), .val (.int p2), .val (.int p3), .val (.int p4), .val (.ref b1), .val (.int (1 : Int32)), .val (.int (p0 &&& (3 : Int32))), .val (.int (0 : Int32)), .val (.ref b27), .val (.int (p4 &&& (1 : Int32))), .val (.int (0 : Int32)), .val (.int (0 : Int32))] [(.int (1 : Int32))])) t
            refine XS.ifNo X32.here hx rfl (hb hby at_125) rfl ((if0 _ _).trans (feq (by decide : ¬ ((1 : Int32) = (0 : Int32)))).1) ?_
            show Steps p.tables e below (T32.setTop (mkF m 128 #[.val (.int p0), .val (.int p1), .val (.int p2), .val (.int p3), .val (.int p4), .val (.ref b1), .val (.int (1 : Int32)), .val (.int (p0 &&& (3 : Int32))), .val (.int (0 : Int32)), .val (.ref b27), .val (.int (p4 &&& (1 : Int32))), .val (.int (0 : Int32)), .val (.int (0 : Int32))] [])) t
            refine XS.iload X32.here hx rfl (hb hby at_128) rfl ?_
            show Steps p.tables e below (T32.setTop (mkF m 130 #[.val (.int p0), .val (.int p1), .val (.int p2), .val (.int p3), .val (.int p4), .val (.ref b1), .val (.int (1 : Int32)), .val (.int (p0 &&& (3 : Int32))), .val (.int (0 : Int32)), .val (.ref b27), .val (.int (p4 &&& (1 : Int32))), .val (.int (0 : Int32)), .val (.int (0 : Int32))] [(.int (0 : Int32))])) t
            refine XS.iload X32.here hx rfl (hb hby at_130) rfl ?_
            show Steps p.tables e below (T32.setTop (mkF m 132 #[.val (.int p0), .val (.int p1), .val (.int p2), .val (.int p3), .val (.int p4), .val (.ref b1), .val (.int (1 : Int32)), .val (.int (p0 &&& (3 : Int32))), .val (.int (0 : Int32)), .val (.ref b27), .val (.int (p4 &&& (1 : Int32))), .val (.int (0 : Int32)), .val (.int (0 : Int32))] [(.int (p0 &&& (3 : Int32))), (.int (0 : Int32))])) t
            refine XS.ifYes X32.here hx rfl (pc0 := 132) (pc' := 139) rfl (hb hby at_132) rfl ((if0 _ _).trans (feq (own_k1 hc24)).2) (by decide) (by decide) ?_
            show Steps p.tables e below (T32.setTop (mkF m 139 #[.val (.int p0), .val (.int p1), .val (.int p2), .val (.int p3), .val (.int p4), .val (.ref b1), .val (.int (1 : Int32)), .val (.int (p0 &&& (3 : Int32))), .val (.int (0 : Int32)), .val (.ref b27), .val (.int (p4 &&& (1 : Int32))), .val (.int (0 : Int32)), .val (.int (0 : Int32))] [(.int (0 : Int32))])) t
            refine XS.iconst X32.here hx rfl (hb hby at_139) ?_
            show Steps p.tables e below (T32.setTop (mkF m 140 #[.val (.int p0), .val (.int p1), .val (.int p2), .val (.int p3), .val (.int p4), .val (.ref b1), .val (.int (1 : Int32)), .val (.int (p0 &&& (3 : Int32))), .val (.int (0 : Int32)), .val (.ref b27), .val (.int (p4 &&& (1 : Int32))), .val (.int (0 : Int32)), .val (.int (0 : Int32))] [(.int (0 : Int32)), (.int (0 : Int32))])) t
            refine XS.icmpNo X32.here hx rfl (hb hby at_140) rfl (teq (by decide : (0 : Int32) = (0 : Int32))).2 ?_
            show Steps p.tables e below (T32.setTop (mkF m 143 #[.val (.int p0), .val (.int p1), .val (.int p2), .val (.int p3), .val (.int p4), .val (.ref b1), .val (.int (1 : Int32)), .val (.int (p0 &&& (3 : Int32))), .val (.int (0 : Int32)), .val (.ref b27), .val (.int (p4 &&& (1 : Int32))), .val (.int (0 : Int32)), .val (.int (0 : Int32))] [])) t
            refine XS.iload X32.here hx rfl (hb hby at_143) rfl ?_
            show Steps p.tables e below (T32.setTop (mkF m 145 #[.val (.int p0), .val (.int p1), .val (.int p2), .val (.int p3), .val (.int p4), .val (.ref b1), .val (.int (1 : Int32)), .val (.int (p0 &&& (3 : Int32))), .val (.int (0 : Int32)), .val (.ref b27), .val (.int (p4 &&& (1 : Int32))), .val (.int (0 : Int32)), .val (.int (0 : Int32))] [(.int (0 : Int32))])) t
            refine XS.iload X32.here hx rfl (hb hby at_145) rfl ?_
            show Steps p.tables e below (T32.setTop (mkF m 147 #[.val (.int p0), .val (.int p1), .val (.int p2), .val (.int p3), .val (.int p4), .val (.ref b1), .val (.int (1 : Int32)), .val (.int (p0 &&& (3 : Int32))), .val (.int (0 : Int32)), .val (.ref b27), .val (.int (p4 &&& (1 : Int32))), .val (.int (0 : Int32)), .val (.int (0 : Int32))] [(.int (p4 &&& (1 : Int32))), (.int (0 : Int32))])) t
            refine XS.ifYes X32.here hx rfl (pc0 := 147) (pc' := 154) rfl (hb hby at_147) rfl ((if0 _ _).trans (feq (own_j1 hc88)).2) (by decide) (by decide) ?_
            show Steps p.tables e below (T32.setTop (mkF m 154 #[.val (.int p0), .val (.int p1), .val (.int p2), .val (.int p3), .val (.int p4), .val (.ref b1), .val (.int (1 : Int32)), .val (.int (p0 &&& (3 : Int32))), .val (.int (0 : Int32)), .val (.ref b27), .val (.int (p4 &&& (1 : Int32))), .val (.int (0 : Int32)), .val (.int (0 : Int32))] [(.int (0 : Int32))])) t
            refine XS.iconst X32.here hx rfl (hb hby at_154) ?_
            show Steps p.tables e below (T32.setTop (mkF m 155 #[.val (.int p0), .val (.int p1), .val (.int p2), .val (.int p3), .val (.int p4), .val (.ref b1), .val (.int (1 : Int32)), .val (.int (p0 &&& (3 : Int32))), .val (.int (0 : Int32)), .val (.ref b27), .val (.int (p4 &&& (1 : Int32))), .val (.int (0 : Int32)), .val (.int (0 : Int32))] [(.int (0 : Int32)), (.int (0 : Int32))])) t
            refine XS.icmpNo X32.here hx rfl (hb hby at_155) rfl (teq (by decide : (0 : Int32) = (0 : Int32))).2 ?_
            show Steps p.tables e below (T32.setTop (mkF m 158 #[.val (.int p0), .val (.int p1), .val (.int p2), .val (.int p3), .val (.int p4), .val (.ref b1), .val (.int (1 : Int32)), .val (.int (p0 &&& (3 : Int32))), .val (.int (0 : Int32)), .val (.ref b27), .val (.int (p4 &&& (1 : Int32))), .val (.int (0 : Int32)), .val (.int (0 : Int32))] [])) t
            refine XS.iload X32.here hx rfl (hb hby at_158) rfl ?_
            show Steps p.tables e below (T32.setTop (mkF m 160 #[.val (.int p0), .val (.int p1), .val (.int p2), .val (.int p3), .val (.int p4), .val (.ref b1), .val (.int (1 : Int32)), .val (.int (p0 &&& (3 : Int32))), .val (.int (0 : Int32)), .val (.ref b27), .val (.int (p4 &&& (1 : Int32))), .val (.int (0 : Int32)), .val (.int (0 : Int32))] [(.int (0 : Int32))])) t
            refine XS.iload X32.here hx rfl (hb hby at_160) rfl ?_
            show Steps p.tables e below (T32.setTop (mkF m 162 #[.val (.int p0), .val (.int p1), .val (.int p2), .val (.int p3), .val (.int p4), .val (.ref b1), .val (.int (1 : Int32)), .val (.int (p0 &&& (3 : Int32))), .val (.int (0 : Int32)), .val (.ref b27), .val (.int (p4 &&& (1 : Int32))), .val (.int (0 : Int32)), .val (.int (0 : Int32))] [(.int (p0 &&& (3 : Int32))), (.int (0 : Int32))])) t
            refine XS.ifYes X32.here hx rfl (pc0 := 162) (pc' := 174) rfl (hb hby at_162) rfl ((if0 _ _).trans (feq (own_k1 hc24)).2) (by decide) (by decide) ?_
            show Steps p.tables e below (T32.setTop (mkF m 174 #[.val (.int p0), .val (.int p1), .val (.int p2), .val (.int p3), .val (.int p4), .val (.ref b1), .val (.int (1 : Int32)), .val (.int (p0 &&& (3 : Int32))), .val (.int (0 : Int32)), .val (.ref b27), .val (.int (p4 &&& (1 : Int32))), .val (.int (0 : Int32)), .val (.int (0 : Int32))] [(.int (0 : Int32))])) t
            refine XS.iconst X32.here hx rfl (hb hby at_174) ?_
            show Steps p.tables e below (T32.setTop (mkF m 175 #[.val (.int p0), .val (.int p1), .val (.int p2), .val (.int p3), .val (.int p4), .val (.ref b1), .val (.int (1 : Int32)), .val (.int (p0 &&& (3 : Int32))), .val (.int (0 : Int32)), .val (.ref b27), .val (.int (p4 &&& (1 : Int32))), .val (.int (0 : Int32)), .val (.int (0 : Int32))] [(.int (0 : Int32)), (.int (0 : Int32))])) t
            refine XS.icmpNo X32.here hx rfl (hb hby at_175) rfl (teq (by decide : (0 : Int32) = (0 : Int32))).2 ?_
            show Steps p.tables e below (T32.setTop (mkF m 178 #[.val (.int p0), .val (.int p1), .val (.int p2), .val (.int p3), .val (.int p4), .val (.ref b1), .val (.int (1 : Int32)), .val (.int (p0 &&& (3 : Int32))), .val (.int (0 : Int32)), .val (.ref b27), .val (.int (p4 &&& (1 : Int32))), .val (.int (0 : Int32)), .val (.int (0 : Int32))] [])) t
            refine XS.iconst X32.here hx rfl (hb hby at_178) ?_
            show Steps p.tables e below (T32.setTop (mkF m 179 #[.val (.int p0), .val (.int p1), .val (.int p2), .val (.int p3), .val (.int p4), .val (.ref b1), .val (.int (1 : Int32)), .val (.int (p0 &&& (3 : Int32))), .val (.int (0 : Int32)), .val (.ref b27), .val (.int (p4 &&& (1 : Int32))), .val (.int (0 : Int32)), .val (.int (0 : Int32))] [(.int (1 : Int32))])) t
            refine XS.goto X32.here hx rfl (pc0 := 179) (pc' := 183) rfl (hb hby at_179) (by decide) (by decide) ?_
            exact kt
          refine OGo.retZ X32 hx hlk (t := .boolean) (z' := (1 : Int32)) hret (by simp) (hb hby at_183) rfl ?_ (by decide) (by decide)
          show Q0 Z p0 p1 p2 p3 p4 h0 n0 _ T32.heap _
          rw [e32]
          exact ⟨(by rw [f0, if_neg hc24, if_neg hc38, if_pos hc52, if_pos hc88]), N32, KC31⟩
        · refine OGo.step (F' := T28.setTop (mkF m 102 #[.val (.int p0), .val (.int p1), .val (.int p2), .val (.int p3), .val (.int p4), .val (.ref b1), .val (.int (1 : Int32)), .val (.int (p0 &&& (3 : Int32))), .val (.int (0 : Int32)), .val (.ref b27), .val (.int (p4 &&& (1 : Int32))), .unset, .unset] [])) (fun t kt => ?_) ?_
          · show Steps p.tables e below (T28.setTop (mkF m 88 #[.val (.int p0), .val (.int p1), .val (.int p2), .val (.int p3), .val (.int p4), .val (.ref b1), .val (.int (1 : Int32)), .val (.int (p0 &&& (3 : Int32))), .val (.int (0 : Int32)), .val (.ref b27), .val (.int (p4 &&& (1 : Int32))), .unset, .unset] [(.int (1 : Int32)), (.int (p4 &&& (1 : Int32)))])) t
            refine XS.icmpYes X28.here hx rfl (pc0 := 88) (pc' := 102) rfl (hb hby at_88) rfl (feq hc88).2 (by decide) (by decide) ?_
            exact kt
          refine OGo.step (F' := T28.setTop (mkF m 104 #[.val (.int p0), .val (.int p1), .val (.int p2), .val (.int p3), .val (.int p4), .val (.ref b1), .val (.int (1 : Int32)), .val (.int (p0 &&& (3 : Int32))), .val (.int (0 : Int32)), .val (.ref b27), .val (.int (p4 &&& (1 : Int32))), .unset, .unset] [(.ref b27)])) (fun t kt => ?_) ?_
          · show Steps p.tables e below (T28.setTop (mkF m 102 #[.val (.int p0), .val (.int p1), .val (.int p2), .val (.int p3), .val (.int p4), .val (.ref b1), .val (.int (1 : Int32)), .val (.int (p0 &&& (3 : Int32))), .val (.int (0 : Int32)), .val (.ref b27), .val (.int (p4 &&& (1 : Int32))), .unset, .unset] [])) t
            refine XS.aload X28.here hx rfl (hb hby at_102) rfl rfl ?_
            exact kt
          refine OGo.callV X28 hx hZ (y := (⟨"com/example/oddhands/oddhands/simulator/Sample", "isEmpty", "()Z"⟩ : MethodName)) (z := (⟨"com/example/oddhands/oddhands/simulator/Sample", "isEmpty", "()Z"⟩ : MethodName)) hown (own_wd hw 9 rfl) (own_wd hw 10 rfl) (notFace_of_selects (args := #[]) (mvT hZ (own_wd hw 12 rfl))) (own_wd hw 12 rfl) (own_wd hw 11 rfl) (own_wd hw 2 rfl) (own_wd hw 13 rfl) (by decide) (rm3 l Z az hw [] b27 (0 : Int64) h27 n0 (Nat.le_trans Z0 KC27.1) F27_size) (W := 0) (by decide) (by decide) A27 (g := (mkF m 104 #[.val (.int p0), .val (.int p1), .val (.int p2), .val (.int p3), .val (.int p4), .val (.ref b1), .val (.int (1 : Int32)), .val (.int (p0 &&& (3 : Int32))), .val (.int (0 : Int32)), .val (.ref b27), .val (.int (p4 &&& (1 : Int32))), .unset, .unset] [(.ref b27)])) rfl (by rw [hml]; rfl) (argsL := []) (rest := []) (lenOf pd_0_1 rfl) rfl (by show 2 * 0 + _ ≤ _; exact Nat.le_of_eq rfl) (hb hby at_104) rfl e28 (by decide) (by decide) ?_
          rintro _ T33 L33 X33 ⟨hv33, Nq33, e33⟩
          have N33 := Fr.app N28 Nq33
          rw [show (f3 (0 : Int64)) = (1 : Int32) from by decide] at hv33
          subst hv33
          show OGo _ _ _ _ _ _ _ (T33.setTop (mkF m 107 #[.val (.int p0), .val (.int p1), .val (.int p2), .val (.int p3), .val (.int p4), .val (.ref b1), .val (.int (1 : Int32)), .val (.int (p0 &&& (3 : Int32))), .val (.int (0 : Int32)), .val (.ref b27), .val (.int (p4 &&& (1 : Int32))), .unset, .unset] [(.int (1 : Int32))]))
          refine OGo.step (F' := T33.setTop (mkF m 113 #[.val (.int p0), .val (.int p1), .val (.int p2), .val (.int p3), .val (.int p4), .val (.ref b1), .val (.int (1 : Int32)), .val (.int (p0 &&& (3 : Int32))), .val (.int (0 : Int32)), .val (.ref b27), .val (.int (p4 &&& (1 : Int32))), .val (.int (1 : Int32)), .unset] [(.ref b27), (.ref b1)])) (fun t kt => ?_) ?_
          · show Steps p.tables e below (T33.setTop (mkF m 107 #[.val (.int p0), .val (.int p1), .val (.int p2), .val (.int p3), .val (.int p4), .val (.ref b1), .val (.int (1 : Int32)), .val (.int (p0 &&& (3 : Int32))), .val (.int (0 : Int32)), .val (.ref b27), .val (.int (p4 &&& (1 : Int32))), .unset, .unset] [(.int (1 : Int32))])) t
            refine XS.istore X33.here hx rfl (hb hby at_107) rfl (l' := #[.val (.int p0), .val (.int p1), .val (.int p2), .val (.int p3), .val (.int p4), .val (.ref b1), .val (.int (1 : Int32)), .val (.int (p0 &&& (3 : Int32))), .val (.int (0 : Int32)), .val (.ref b27), .val (.int (p4 &&& (1 : Int32))), .val (.int (1 : Int32)), .unset]) rfl ?_
            show Steps p.tables e below (T33.setTop (mkF m 109 #[.val (.int p0), .val (.int p1), .val (.int p2), .val (.int p3), .val (.int p4), .val (.ref b1), .val (.int (1 : Int32)), .val (.int (p0 &&& (3 : Int32))), .val (.int (0 : Int32)), .val (.ref b27), .val (.int (p4 &&& (1 : Int32))), .val (.int (1 : Int32)), .unset] [])) t
            refine XS.aload X33.here hx rfl (hb hby at_109) rfl rfl ?_
            show Steps p.tables e below (T33.setTop (mkF m 111 #[.val (.int p0), .val (.int p1), .val (.int p2), .val (.int p3), .val (.int p4), .val (.ref b1), .val (.int (1 : Int32)), .val (.int (p0 &&& (3 : Int32))), .val (.int (0 : Int32)), .val (.ref b27), .val (.int (p4 &&& (1 : Int32))), .val (.int (1 : Int32)), .unset] [(.ref b1)])) t
            refine XS.aload X33.here hx rfl (hb hby at_111) rfl rfl ?_
            exact kt
          refine OGo.callV X33 hx hZ (y := (⟨"com/example/oddhands/oddhands/simulator/Sample", "add", "(Lcom/example/oddhands/oddhands/simulator/Sample;)V"⟩ : MethodName)) (z := (⟨"com/example/oddhands/oddhands/simulator/Sample", "add", "(Lcom/example/oddhands/oddhands/simulator/Sample;)V"⟩ : MethodName)) hown (own_wd hw 16 rfl) (own_wd hw 17 rfl) (notFace_of_selects (args := #[]) (mvT hZ (own_wd hw 19 rfl))) (own_wd hw 19 rfl) (own_wd hw 18 rfl) (own_wd hw 2 rfl) (own_wd hw 20 rfl) (by decide) (rm4 l Z az hw [] b1 b27 (f7 (f7 (0 : Int64))) (f5 (f5 (0 : Int64) ((p1.toInt16.toInt32).toInt64)) ((p2.toInt16.toInt32).toInt64)) (f5 (f5 (0 : Int64) (f8 ((p1.toInt16.toInt32).toInt64) ((p1.toInt16.toInt32).toInt64))) (f8 ((p2.toInt16.toInt32).toInt64) ((p2.toInt16.toInt32).toInt64))) (0 : Int64) (0 : Int64) (0 : Int64) 2 0 h27 n0 (Nat.le_trans Z0 KC27.1) (P25_1.ext E27) (P25_2.ext E27) (P25_3.ext E27) F27_size F27_sum F27_sumOfSquares (own_step 1 _ _ _ _ (own_step 0 _ _ _ _ own_ok0 (own_sh16 _) (by decide)) (own_sh16 _) (by decide)) own_ok0 (by decide) (by decide) (Ne.symm (Nat.ne_of_lt (Nat.lt_of_lt_of_le P25_0.lt (Nat.le_of_eq g27.symm)))) (P25_0.ext E27) gn_b1) (W := 0) (by decide) (by decide) (P25_0.ext E27) (g := (mkF m 113 #[.val (.int p0), .val (.int p1), .val (.int p2), .val (.int p3), .val (.int p4), .val (.ref b1), .val (.int (1 : Int32)), .val (.int (p0 &&& (3 : Int32))), .val (.int (0 : Int32)), .val (.ref b27), .val (.int (p4 &&& (1 : Int32))), .val (.int (1 : Int32)), .unset] [(.ref b27), (.ref b1)])) rfl (by rw [hml]; rfl) (argsL := [(.ref b27)]) (rest := []) (lenOf pd_0_3 rfl) rfl (by show 2 * 0 + _ ≤ _; exact Nat.le_of_eq rfl) (hb hby at_113) rfl e33 (by decide) (by decide) ?_
          rintro _ T34 L34 X34 ⟨rfl, Nq34, K34, P34_0, P34_1⟩
          have KC34 : Keep h0 T34.heap [] := KC27.trans K34 (allS (Or.inr sz_b1) all0)
          have N34 := Fr.app N33 Nq34
          show OGo _ _ _ _ _ _ _ (T34.setTop (mkF m 116 #[.val (.int p0), .val (.int p1), .val (.int p2), .val (.int p3), .val (.int p4), .val (.ref b1), .val (.int (1 : Int32)), .val (.int (p0 &&& (3 : Int32))), .val (.int (0 : Int32)), .val (.ref b27), .val (.int (p4 &&& (1 : Int32))), .val (.int (1 : Int32)), .unset] []))
          refine OGo.step (F' := T34.setTop (mkF m 118 #[.val (.int p0), .val (.int p1), .val (.int p2), .val (.int p3), .val (.int p4), .val (.ref b1), .val (.int (1 : Int32)), .val (.int (p0 &&& (3 : Int32))), .val (.int (0 : Int32)), .val (.ref b27), .val (.int (p4 &&& (1 : Int32))), .val (.int (1 : Int32)), .unset] [(.ref b1)])) (fun t kt => ?_) ?_
          · show Steps p.tables e below (T34.setTop (mkF m 116 #[.val (.int p0), .val (.int p1), .val (.int p2), .val (.int p3), .val (.int p4), .val (.ref b1), .val (.int (1 : Int32)), .val (.int (p0 &&& (3 : Int32))), .val (.int (0 : Int32)), .val (.ref b27), .val (.int (p4 &&& (1 : Int32))), .val (.int (1 : Int32)), .unset] [])) t
            refine XS.aload X34.here hx rfl (hb hby at_116) rfl rfl ?_
            exact kt
          refine OGo.callV X34 hx hZ (y := (⟨"com/example/oddhands/oddhands/simulator/Sample", "isEmpty", "()Z"⟩ : MethodName)) (z := (⟨"com/example/oddhands/oddhands/simulator/Sample", "isEmpty", "()Z"⟩ : MethodName)) hown (own_wd hw 9 rfl) (own_wd hw 10 rfl) (notFace_of_selects (args := #[]) (mvT hZ (own_wd hw 12 rfl))) (own_wd hw 12 rfl) (own_wd hw 11 rfl) (own_wd hw 2 rfl) (own_wd hw 13 rfl) (by decide) (rm3 l Z az hw [] b1 (f5 (f7 (f7 (0 : Int64))) (0 : Int64)) T34.heap n0 (Nat.le_trans Z0 KC34.1) P34_1) (W := 0) (by decide) (by decide) P34_0 (g := (mkF m 118 #[.val (.int p0), .val (.int p1), .val (.int p2), .val (.int p3), .val (.int p4), .val (.ref b1), .val (.int (1 : Int32)), .val (.int (p0 &&& (3 : Int32))), .val (.int (0 : Int32)), .val (.ref b27), .val (.int (p4 &&& (1 : Int32))), .val (.int (1 : Int32)), .unset] [(.ref b1)])) rfl (by rw [hml]; rfl) (argsL := []) (rest := []) (lenOf pd_0_1 rfl) rfl (by show 2 * 0 + _ ≤ _; exact Nat.le_of_eq rfl) (hb hby at_118) rfl rfl (by decide) (by decide) ?_
          rintro _ T35 L35 X35 ⟨hv35, Nq35, e35⟩
          have N35 := Fr.app N34 Nq35
          rw [show (f3 (f5 (f7 (f7 (0 : Int64))) (0 : Int64))) = (0 : Int32) from by decide] at hv35
          subst hv35
          show OGo _ _ _ _ _ _ _ (T35.setTop (mkF m 121 #[.val (.int p0), .val (.int p1), .val (.int p2), .val (.int p3), .val (.int p4), .val (.ref b1), .val (.int (1 : Int32)), .val (.int (p0 &&& (3 : Int32))), .val (.int (0 : Int32)), .val (.ref b27), .val (.int (p4 &&& (1 : Int32))), .val (.int (1 : Int32)), .unset] [(.int (0 : Int32))]))
          refine OGo.step (F' := T35.setTop (mkF m 183 #[.val (.int p0), .val (.int p1), .val (.int p2), .val (.int p3), .val (.int p4), .val (.ref b1), .val (.int (1 : Int32)), .val (.int (p0 &&& (3 : Int32))), .val (.int (0 : Int32)), .val (.ref b27), .val (.int (p4 &&& (1 : Int32))), .val (.int (1 : Int32)), .val (.int (0 : Int32))] [(.int (1 : Int32))])) (fun t kt => ?_) ?_
          · show Steps p.tables e below (T35.setTop (mkF m 121 #[.val (.int p0), .val (.int p1), .val (.int p2), .val (.int p3), .val (.int p4), .val (.ref b1), .val (.int (1 : Int32)), .val (.int (p0 &&& (3 : Int32))), .val (.int (0 : Int32)), .val (.ref b27), .val (.int (p4 &&& (1 : Int32))), .val (.int (1 : Int32)), .unset] [(.int (0 : Int32))])) t
            refine XS.istore X35.here hx rfl (hb hby at_121) rfl (l' := #[.val (.int p0), .val (.int p1), .val (.int p2), .val (.int p3), .val (.int p4), .val (.ref b1), .val (.int (1 : Int32)), .val (.int (p0 &&& (3 : Int32))), .val (.int (0 : Int32)), .val (.ref b27), .val (.int (p4 &&& (1 : Int32))), .val (.int (1 : Int32)), .val (.int (0 : Int32))]) rfl ?_
            show Steps p.tables e below (T35.setTop (mkF m 123 #[.val (.int p0), .val (.int p1), .val (.int p2), .val (.int p3), .val (.int p4), .val (.ref b1), .val (.int (1 : Int32)), .val (.int (p0 &&& (3 : Int32))), .val (.int (0 : Int32)), .val (.ref b27), .val (.int (p4 &&& (1 : Int32))), .val (.int (1 : Int32)), .val (.int (0 : Int32))] [])) t
            refine XS.iload X35.here hx rfl (hb hby at_123) rfl ?_
            show Steps p.tables e below (T35.setTop (mkF m 125 #[.val (.int p0), .val (.int p1), .val (.int p2), .val (.int p3), .val (.int p4), .val (.ref b1), .val (.int (1 : Int32)), .val (.int (p0 &&& (3 : Int32))), .val (.int (0 : Int32)), .val (.ref b27), .val (.int (p4 &&& (1 : Int32))), .val (.int (1 : Int32)), .val (.int (0 : Int32))] [(.int (1 : Int32))])) t
            refine XS.ifNo X35.here hx rfl (hb hby at_125) rfl ((if0 _ _).trans (feq (by decide : ¬ ((1 : Int32) = (0 : Int32)))).1) ?_
            show Steps p.tables e below (T35.setTop (mkF m 128 #[.val (.int p0), .val (.int p1), .val (.int p2), .val (.int p3), .val (.int p4), .val (.ref b1), .val (.int (1 : Int32)), .val (.int (p0 &&& (3 : Int32))), .val (.int (0 : Int32)), .val (.ref b27), .val (.int (p4 &&& (1 : Int32))), .val (.int (1 : Int32)), .val (.int (0 : Int32))] [])) t
            refine XS.iload X35.here hx rfl (hb hby at_128) rfl ?_
            show Steps p.tables e below (T35.setTop (mkF m 130 #[.val (.int p0), .val (.int p1), .val (.int p2), .val (.int p3), .val (.int p4), .val (.ref b1), .val (.int (1 : Int32)), .val (.int (p0 &&& (3 : Int32))), .val (.int (0 : Int32)), .val (.ref b27), .val (.int (p4 &&& (1 : Int32))), .val (.int (1 : Int32)), .val (.int (0 : Int32))] [(.int (0 : Int32))])) t
            refine XS.iload X35.here hx rfl (hb hby at_130) rfl ?_
            show Steps p.tables e below (T35.setTop (mkF m 132 #[.val (.int p0), .val (.int p1), .val (.int p2), .val (.int p3), .val (.int p4), .val (.ref b1), .val (.int (1 : Int32)), .val (.int (p0 &&& (3 : Int32))), .val (.int (0 : Int32)), .val (.ref b27), .val (.int (p4 &&& (1 : Int32))), .val (.int (1 : Int32)), .val (.int (0 : Int32))] [(.int (p0 &&& (3 : Int32))), (.int (0 : Int32))])) t
            refine XS.ifYes X35.here hx rfl (pc0 := 132) (pc' := 139) rfl (hb hby at_132) rfl ((if0 _ _).trans (feq (own_k1 hc24)).2) (by decide) (by decide) ?_
            show Steps p.tables e below (T35.setTop (mkF m 139 #[.val (.int p0), .val (.int p1), .val (.int p2), .val (.int p3), .val (.int p4), .val (.ref b1), .val (.int (1 : Int32)), .val (.int (p0 &&& (3 : Int32))), .val (.int (0 : Int32)), .val (.ref b27), .val (.int (p4 &&& (1 : Int32))), .val (.int (1 : Int32)), .val (.int (0 : Int32))] [(.int (0 : Int32))])) t
            refine XS.iconst X35.here hx rfl (hb hby at_139) ?_
            show Steps p.tables e below (T35.setTop (mkF m 140 #[.val (.int p0), .val (.int p1), .val (.int p2), .val (.int p3), .val (.int p4), .val (.ref b1), .val (.int (1 : Int32)), .val (.int (p0 &&& (3 : Int32))), .val (.int (0 : Int32)), .val (.ref b27), .val (.int (p4 &&& (1 : Int32))), .val (.int (1 : Int32)), .val (.int (0 : Int32))] [(.int (0 : Int32)), (.int (0 : Int32))])) t
            refine XS.icmpNo X35.here hx rfl (hb hby at_140) rfl (teq (by decide : (0 : Int32) = (0 : Int32))).2 ?_
            show Steps p.tables e below (T35.setTop (mkF m 143 #[.val (.int p0), .val (.int p1), .val (.int p2), .val (.int p3), .val (.int p4), .val (.ref b1), .val (.int (1 : Int32)), .val (.int (p0 &&& (3 : Int32))), .val (.int (0 : Int32)), .val (.ref b27), .val (.int (p4 &&& (1 : Int32))), .val (.int (1 : Int32)), .val (.int (0 : Int32))] [])) t
            refine XS.iload X35.here hx rfl (hb hby at_143) rfl ?_
            show Steps p.tables e below (T35.setTop (mkF m 145 #[.val (.int p0), .val (.int p1), .val (.int p2), .val (.int p3), .val (.int p4), .val (.ref b1), .val (.int (1 : Int32)), .val (.int (p0 &&& (3 : Int32))), .val (.int (0 : Int32)), .val (.ref b27), .val (.int (p4 &&& (1 : Int32))), .val (.int (1 : Int32)), .val (.int (0 : Int32))] [(.int (1 : Int32))])) t
            refine XS.iload X35.here hx rfl (hb hby at_145) rfl ?_
            show Steps p.tables e below (T35.setTop (mkF m 147 #[.val (.int p0), .val (.int p1), .val (.int p2), .val (.int p3), .val (.int p4), .val (.ref b1), .val (.int (1 : Int32)), .val (.int (p0 &&& (3 : Int32))), .val (.int (0 : Int32)), .val (.ref b27), .val (.int (p4 &&& (1 : Int32))), .val (.int (1 : Int32)), .val (.int (0 : Int32))] [(.int (p4 &&& (1 : Int32))), (.int (1 : Int32))])) t
            refine XS.ifNo X35.here hx rfl (hb hby at_147) rfl ((if0 _ _).trans (teq (own_j0 _ hc88)).2) ?_
            show Steps p.tables e below (T35.setTop (mkF m 150 #[.val (.int p0), .val (.int p1), .val (.int p2), .val (.int p3), .val (.int p4), .val (.ref b1), .val (.int (1 : Int32)), .val (.int (p0 &&& (3 : Int32))), .val (.int (0 : Int32)), .val (.ref b27), .val (.int (p4 &&& (1 : Int32))), .val (.int (1 : Int32)), .val (.int (0 : Int32))] [(.int (1 : Int32))])) t
            refine XS.iconst X35.here hx rfl (hb hby at_150) ?_
            show Steps p.tables e below (T35.setTop (mkF m 151 #[.val (.int p0), .val (.int p1), .val (.int p2), .val (.int p3), .val (.int p4), .val (.ref b1), .val (.int (1 : Int32)), .val (.int (p0 &&& (3 : Int32))), .val (.int (0 : Int32)), .val (.ref b27), .val (.int (p4 &&& (1 : Int32))), .val (.int (1 : Int32)), .val (.int (0 : Int32))] [(.int (1 : Int32)), (.int (1 : Int32))])) t
            refine XS.goto X35.here hx rfl (pc0 := 151) (pc' := 155) rfl (hb hby at_151) (by decide) (by decide) ?_
            show Steps p.tables e below (T35.setTop (mkF m 155 #[.val (.int p0), .val (.int p1), .val (.int p2), .val (.int p3), .val (.int p4), .val (.ref b1), .val (.int (1 : Int32)), .val (.int (p0 &&& (3 : Int32))), .val (.int (0 : Int32)), .val (.ref b27), .val (.int (p4 &&& (1 : Int32))), .val (.int (1 : Int32)), .val (.int (0 : Int32))] [(.int (1 : Int32)), (.int (1 : Int32))])) t
            refine XS.icmpNo X35.here hx rfl (hb hby at_155) rfl (teq (by decide : (1 : Int32) = (1 : Int32))).2 ?_
            show Steps p.tables e below (T35.setTop (mkF m 158 #[.val (.int p0), .val (.int p1), .val (.int p2), .val (.int p3), .val (.int p4), .val (.ref b1), .val (.int (1 : Int32)), .val (.int (p0 &&& (3 : Int32))), .val (.int (0 : Int32)), .val (.ref b27), .val (.int (p4 &&& (1 : Int32))), .val (.int (1 : Int32)), .val (.int (0 : Int32))] [])) t
            refine XS.iload X35.here hx rfl (hb hby at_158) rfl ?_
            show Steps p.tables e below (T35.setTop (mkF m 160 #[.val (.int p0), .val (.int p1), .val (.int p2), .val (.int p3), .val (.int p4), .val (.ref b1), .val (.int (1 : Int32)), .val (.int (p0 &&& (3 : Int32))), .val (.int (0 : Int32)), .val (.ref b27), .val (.int (p4 &&& (1 : Int32))), .val (.int (1 : Int32)), .val (.int (0 : Int32))] [(.int (0 : Int32))])) t
            refine XS.iload X35.here hx rfl (hb hby at_160) rfl ?_
            show Steps p.tables e below (T35.setTop (mkF m 162 #[.val (.int p0), .val (.int p1), .val (.int p2), .val (.int p3), .val (.int p4), .val (.ref b1), .val (.int (1 : Int32)), .val (.int (p0 &&& (3 : Int32))), .val (.int (0 : Int32)), .val (.ref b27), .val (.int (p4 &&& (1 : Int32))), .val (.int (1 : Int32)), .val (.int (0 : Int32))] [(.int (p0 &&& (3 : Int32))), (.int (0 : Int32))])) t
            refine XS.ifYes X35.here hx rfl (pc0 := 162) (pc' := 174) rfl (hb hby at_162) rfl ((if0 _ _).trans (feq (own_k1 hc24)).2) (by decide) (by decide) ?_
            show Steps p.tables e below (T35.setTop (mkF m 174 #[.val (.int p0), .val (.int p1), .val (.int p2), .val (.int p3), .val (.int p4), .val (.ref b1), .val (.int (1 : Int32)), .val (.int (p0 &&& (3 : Int32))), .val (.int (0 : Int32)), .val (.ref b27), .val (.int (p4 &&& (1 : Int32))), .val (.int (1 : Int32)), .val (.int (0 : Int32))] [(.int (0 : Int32))])) t
            refine XS.iconst X35.here hx rfl (hb hby at_174) ?_
            show Steps p.tables e below (T35.setTop (mkF m 175 #[.val (.int p0), .val (.int p1), .val (.int p2), .val (.int p3), .val (.int p4), .val (.ref b1), .val (.int (1 : Int32)), .val (.int (p0 &&& (3 : Int32))), .val (.int (0 : Int32)), .val (.ref b27), .val (.int (p4 &&& (1 : Int32))), .val (.int (1 : Int32)), .val (.int (0 : Int32))] [(.int (0 : Int32)), (.int (0 : Int32))])) t
            refine XS.icmpNo X35.here hx rfl (hb hby at_175) rfl (teq (by decide : (0 : Int32) = (0 : Int32))).2 ?_
            show Steps p.tables e below (T35.setTop (mkF m 178 #[.val (.int p0), .val (.int p1), .val (.int p2), .val (.int p3), .val (.int p4), .val (.ref b1), .val (.int (1 : Int32)), .val (.int (p0 &&& (3 : Int32))), .val (.int (0 : Int32)), .val (.ref b27), .val (.int (p4 &&& (1 : Int32))), .val (.int (1 : Int32)), .val (.int (0 : Int32))] [])) t
            refine XS.iconst X35.here hx rfl (hb hby at_178) ?_
            show Steps p.tables e below (T35.setTop (mkF m 179 #[.val (.int p0), .val (.int p1), .val (.int p2), .val (.int p3), .val (.int p4), .val (.ref b1), .val (.int (1 : Int32)), .val (.int (p0 &&& (3 : Int32))), .val (.int (0 : Int32)), .val (.ref b27), .val (.int (p4 &&& (1 : Int32))), .val (.int (1 : Int32)), .val (.int (0 : Int32))] [(.int (1 : Int32))])) t
            refine XS.goto X35.here hx rfl (pc0 := 179) (pc' := 183) rfl (hb hby at_179) (by decide) (by decide) ?_
            exact kt
          refine OGo.retZ X35 hx hlk (t := .boolean) (z' := (1 : Int32)) hret (by simp) (hb hby at_183) rfl ?_ (by decide) (by decide)
          show Q0 Z p0 p1 p2 p3 p4 h0 n0 _ T35.heap _
          rw [e35]
          exact ⟨(by rw [f0, if_neg hc24, if_neg hc38, if_pos hc52, if_neg hc88]), N35, KC34⟩
      · refine OGo.step (F' := T25.setTop (mkF m 55 #[.val (.int p0), .val (.int p1), .val (.int p2), .val (.int p3), .val (.int p4), .val (.ref b1), .val (.int (1 : Int32)), .val (.int (p0 &&& (3 : Int32))), .unset, .unset, .unset, .unset, .unset] [])) (fun t kt => ?_) ?_
        · show Steps p.tables e below (T25.setTop (mkF m 52 #[.val (.int p0), .val (.int p1), .val (.int p2), .val (.int p3), .val (.int p4), .val (.ref b1), .val (.int (1 : Int32)), .val (.int (p0 &&& (3 : Int32))), .unset, .unset, .unset, .unset, .unset] [(.int (3 : Int32)), (.int (p0 &&& (3 : Int32)))])) t
          refine XS.icmpNo X25.here hx rfl (hb hby at_52) rfl (flt hc52).1 ?_
          exact kt
        refine OGo.step (F' := T25.setTop (mkF m 60 #[.val (.int p0), .val (.int p1), .val (.int p2), .val (.int p3), .val (.int p4), .val (.ref b1), .val (.int (1 : Int32)), .val (.int (p0 &&& (3 : Int32))), .unset, .unset, .unset, .unset, .unset] [(.long ((p3.toInt16.toInt32).toInt64)), (.ref b1)])) (fun t kt => ?_) ?_
        · show Steps p.tables e below (T25.setTop (mkF m 55 #[.val (.int p0), .val (.int p1), .val (.int p2), .val (.int p3), .val (.int p4), .val (.ref b1), .val (.int (1 : Int32)), .val (.int (p0 &&& (3 : Int32))), .unset, .unset, .unset, .unset, .unset] [])) t
          refine XS.aload X25.here hx rfl (hb hby at_55) rfl rfl ?_
          show Steps p.tables e below (T25.setTop (mkF m 57 #[.val (.int p0), .val (.int p1), .val (.int p2), .val (.int p3), .val (.int p4), .val (.ref b1), .val (.int (1 : Int32)), .val (.int (p0 &&& (3 : Int32))), .unset, .unset, .unset, .unset, .unset] [(.ref b1)])) t
          refine XS.iloadN X25.here hx rfl (hb hby at_57) rfl ?_
          show Steps p.tables e below (T25.setTop (mkF m 58 #[.val (.int p0), .val (.int p1), .val (.int p2), .val (.int p3), .val (.int p4), .val (.ref b1), .val (.int (1 : Int32)), .val (.int (p0 &&& (3 : Int32))), .unset, .unset, .unset, .unset, .unset] [(.int p3), (.ref b1)])) t
          refine XS.i2s X25.here hx rfl (hb hby at_58) rfl ?_
          show Steps p.tables e below (T25.setTop (mkF m 59 #[.val (.int p0), .val (.int p1), .val (.int p2), .val (.int p3), .val (.int p4), .val (.ref b1), .val (.int (1 : Int32)), .val (.int (p0 &&& (3 : Int32))), .unset, .unset, .unset, .unset, .unset] [(.int (p3.toInt16.toInt32)), (.ref b1)])) t
          refine XS.i2l X25.here hx rfl (hb hby at_59) rfl ?_
          exact kt
        refine OGo.callV X25 hx hZ (y := (⟨"com/example/oddhands/oddhands/simulator/Sample", "add", "(J)V"⟩ : MethodName)) (z := (⟨"com/example/oddhands/oddhands/simulator/Sample", "add", "(J)V"⟩ : MethodName)) hown (own_wd hw 29 rfl) (own_wd hw 30 rfl) (notFace_of_selects (args := #[]) (mvT hZ (own_wd hw 32 rfl))) (own_wd hw 32 rfl) (own_wd hw 31 rfl) (own_wd hw 2 rfl) (own_wd hw 33 rfl) (by decide) (rm6 l Z az hw [] b1 ((p3.toInt16.toInt32).toInt64) (f7 (f7 (0 : Int64))) (f5 (f5 (0 : Int64) ((p1.toInt16.toInt32).toInt64)) ((p2.toInt16.toInt32).toInt64)) (f5 (f5 (0 : Int64) (f8 ((p1.toInt16.toInt32).toInt64) ((p1.toInt16.toInt32).toInt64))) (f8 ((p2.toInt16.toInt32).toInt64) ((p2.toInt16.toInt32).toInt64))) 2 T25.heap n0 (Nat.le_trans Z0 KC25.1) P25_1 P25_2 P25_3 (own_step 1 _ _ _ _ (own_step 0 _ _ _ _ own_ok0 (own_sh16 _) (by decide)) (own_sh16 _) (by decide)) (by decide) (own_sh16 _) P25_0 gn_b1) (W := 0) (by decide) (by decide) P25_0 (g := (mkF m 60 #[.val (.int p0), .val (.int p1), .val (.int p2), .val (.int p3), .val (.int p4), .val (.ref b1), .val (.int (1 : Int32)), .val (.int (p0 &&& (3 : Int32))), .unset, .unset, .unset, .unset, .unset] [(.long ((p3.toInt16.toInt32).toInt64)), (.ref b1)])) rfl (by rw [hml]; rfl) (argsL := [(.long ((p3.toInt16.toInt32).toInt64))]) (rest := []) (lenOf pd_0_2 rfl) rfl (by show 2 * 0 + _ ≤ _; exact Nat.le_of_eq rfl) (hb hby at_60) rfl rfl (by decide) (by decide) ?_
        rintro _ T36 L36 X36 ⟨rfl, Nq36, K36, P36_0, P36_1, P36_2, P36_3⟩
        have KC36 : Keep h0 T36.heap [] := KC25.trans K36 (allS (Or.inr sz_b1) all0)
        have N36 := Fr.app N25 Nq36
        show OGo _ _ _ _ _ _ _ (T36.setTop (mkF m 63 #[.val (.int p0), .val (.int p1), .val (.int p2), .val (.int p3), .val (.int p4), .val (.ref b1), .val (.int (1 : Int32)), .val (.int (p0 &&& (3 : Int32))), .unset, .unset, .unset, .unset, .unset] []))
        refine OGo.step (F' := T36.setTop (mkF m 65 #[.val (.int p0), .val (.int p1), .val (.int p2), .val (.int p3), .val (.int p4), .val (.ref b1), .val (.int (1 : Int32)), .val (.int (p0 &&& (3 : Int32))), .unset, .unset, .unset, .unset, .unset] [(.ref b1)])) (fun t kt => ?_) ?_
        · show Steps p.tables e below (T36.setTop (mkF m 63 #[.val (.int p0), .val (.int p1), .val (.int p2), .val (.int p3), .val (.int p4), .val (.ref b1), .val (.int (1 : Int32)), .val (.int (p0 &&& (3 : Int32))), .unset, .unset, .unset, .unset, .unset] [])) t
          refine XS.aload X36.here hx rfl (hb hby at_63) rfl rfl ?_
          exact kt
        refine OGo.callV X36 hx hZ (y := (⟨"com/example/oddhands/oddhands/simulator/Sample", "isEmpty", "()Z"⟩ : MethodName)) (z := (⟨"com/example/oddhands/oddhands/simulator/Sample", "isEmpty", "()Z"⟩ : MethodName)) hown (own_wd hw 9 rfl) (own_wd hw 10 rfl) (notFace_of_selects (args := #[]) (mvT hZ (own_wd hw 12 rfl))) (own_wd hw 12 rfl) (own_wd hw 11 rfl) (own_wd hw 2 rfl) (own_wd hw 13 rfl) (by decide) (rm3 l Z az hw [] b1 (f7 (f7 (f7 (0 : Int64)))) T36.heap n0 (Nat.le_trans Z0 KC36.1) P36_1) (W := 0) (by decide) (by decide) P36_0 (g := (mkF m 65 #[.val (.int p0), .val (.int p1), .val (.int p2), .val (.int p3), .val (.int p4), .val (.ref b1), .val (.int (1 : Int32)), .val (.int (p0 &&& (3 : Int32))), .unset, .unset, .unset, .unset, .unset] [(.ref b1)])) rfl (by rw [hml]; rfl) (argsL := []) (rest := []) (lenOf pd_0_1 rfl) rfl (by show 2 * 0 + _ ≤ _; exact Nat.le_of_eq rfl) (hb hby at_65) rfl rfl (by decide) (by decide) ?_
        rintro _ T37 L37 X37 ⟨hv37, Nq37, e37⟩
        have N37 := Fr.app N36 Nq37
        rw [show (f3 (f7 (f7 (f7 (0 : Int64))))) = (0 : Int32) from by decide] at hv37
        subst hv37
        show OGo _ _ _ _ _ _ _ (T37.setTop (mkF m 68 #[.val (.int p0), .val (.int p1), .val (.int p2), .val (.int p3), .val (.int p4), .val (.ref b1), .val (.int (1 : Int32)), .val (.int (p0 &&& (3 : Int32))), .unset, .unset, .unset, .unset, .unset] [(.int (0 : Int32))]))
        refine OGo.step (F' := T37.setTop (mkF m 70 #[.val (.int p0), .val (.int p1), .val (.int p2), .val (.int p3), .val (.int p4), .val (.ref b1), .val (.int (1 : Int32)), .val (.int (p0 &&& (3 : Int32))), .val (.int (0 : Int32)), .unset, .unset, .unset, .unset] [])) (fun t kt => ?_) ?_
        · show Steps p.tables e below (T37.setTop (mkF m 68 #[.val (.int p0), .val (.int p1), .val (.int p2), .val (.int p3), .val (.int p4), .val (.ref b1), .val (.int (1 : Int32)), .val (.int (p0 &&& (3 : Int32))), .unset, .unset, .unset, .unset, .unset] [(.int (0 : Int32))])) t
          refine XS.istore X37.here hx rfl (hb hby at_68) rfl (l' := #[.val (.int p0), .val (.int p1), .val (.int p2), .val (.int p3), .val (.int p4), .val (.ref b1), .val (.int (1 : Int32)), .val (.int (p0 &&& (3 : Int32))), .val (.int (0 : Int32)), .unset, .unset, .unset, .unset]) rfl ?_
          exact kt
        obtain ⟨T38, h38, X38, e38, E38, A38, D38, -, st38⟩ := newO X37 hx hZ hown (own_wd hw 0 rfl) (own_wd hw 1 rfl) (own_wd hw 2 rfl) e37 (g := (mkF m 70 #[.val (.int p0), .val (.int p1), .val (.int p2), .val (.int p3), .val (.int p4), .val (.ref b1), .val (.int (1 : Int32)), .val (.int (p0 &&& (3 : Int32))), .val (.int (0 : Int32)), .unset, .unset, .unset, .unset] [])) rfl (hb hby at_70) (by decide) (by decide)
        obtain ⟨b38, g38⟩ : ∃ z, z = T36.heap.size := ⟨_, rfl⟩
        rw [← g38] at A38 D38 st38
        have sz_b38 : h0.size ≤ b38 := Nat.le_trans KC36.1 (Nat.le_of_eq g38.symm)
        have gn_b38 : n0 ≤ b38 := Nat.le_trans Z0 sz_b38
        have KC38 : Keep h0 h38 [] := KC36.ext E38
        have F38_size : Fld Z h38 b38 "com/example/oddhands/oddhands/simulator/Sample" "size" "J" (.long (0 : Int64)) := D38 (Or.inl (own_wd hw 15 rfl)) (ty := .long) (by decide)
        have F38_sum : Fld Z h38 b38 "com/example/oddhands/oddhands/simulator/Sample" "sum" "J" (.long (0 : Int64)) := D38 (Or.inl (own_wd hw 26 rfl)) (ty := .long) (by decide)
        have F38_sumOfSquares : Fld Z h38 b38 "com/example/oddhands/oddhands/simulator/Sample" "sumOfSquares" "J" (.long (0 : Int64)) := D38 (Or.inl (own_wd hw 28 rfl)) (ty := .long) (by decide)
        refine OGo.step st38 ?_
        show OGo _ _ _ _ _ _ _ (T38.setTop (mkF m 73 #[.val (.int p0), .val (.int p1), .val (.int p2), .val (.int p3), .val (.int p4), .val (.ref b1), .val (.int (1 : Int32)), .val (.int (p0 &&& (3 : Int32))), .val (.int (0 : Int32)), .unset, .unset, .unset, .unset] [(.ref b38)]))
        refine OGo.step (F' := T38.setTop (mkF m 74 #[.val (.int p0), .val (.int p1), .val (.int p2), .val (.int p3), .val (.int p4), .val (.ref b1), .val (.int (1 : Int32)), .val (.int (p0 &&& (3 : Int32))), .val (.int (0 : Int32)), .unset, .unset, .unset, .unset] [(.ref b38), (.ref b38)])) (fun t kt => ?_) ?_
        · show Steps p.tables e below (T38.setTop (mkF m 73 #[.val (.int p0), .val (.int p1), .val (.int p2), .val (.int p3), .val (.int p4), .val (.ref b1), .val (.int (1 : Int32)), .val (.int (p0 &&& (3 : Int32))), .val (.int (0 : Int32)), .unset, .unset, .unset, .unset] [(.ref b38)])) t
          refine XS.dup X38.here hx rfl (hb hby at_73) rfl rfl ?_
          exact kt
        refine OGo.callC X38 hx hZ (y := (⟨"com/example/oddhands/oddhands/simulator/Sample", "<init>", "()V"⟩ : MethodName)) rfl hown (own_wd hw 3 rfl) (own_wd hw 4 rfl) (own_wd hw 2 rfl) (own_wd hw 5 rfl) (by decide) (rm1 l Z az hw [] b38 h38 n0 (Nat.le_trans Z0 KC38.1)) (W := 1) (by decide) (by decide) (b := b38) (g := (mkF m 74 #[.val (.int p0), .val (.int p1), .val (.int p2), .val (.int p3), .val (.int p4), .val (.ref b1), .val (.int (1 : Int32)), .val (.int (p0 &&& (3 : Int32))), .val (.int (0 : Int32)), .unset, .unset, .unset, .unset] [(.ref b38), (.ref b38)])) rfl (by rw [hml]; rfl) (argsL := []) (rest := [(.ref b38)]) (lenOf pd_0_0 rfl) rfl (by show 2 * 0 + _ ≤ _; exact Nat.le_of_eq rfl) (hb hby at_74) rfl e38 (by decide) (by decide) ?_
        rintro _ T39 L39 X39 ⟨rfl, Nq39, e39⟩
        have N39 := Fr.app N37 Nq39
        show OGo _ _ _ _ _ _ _ (T39.setTop (mkF m 77 #[.val (.int p0), .val (.int p1), .val (.int p2), .val (.int p3), .val (.int p4), .val (.ref b1), .val (.int (1 : Int32)), .val (.int (p0 &&& (3 : Int32))), .val (.int (0 : Int32)), .unset, .unset, .unset, .unset] [(.ref b38)]))
        refine OGo.step (F' := T39.setTop (mkF m 88 #[.val (.int p0), .val (.int p1), .val (.int p2), .val (.int p3), .val (.int p4), .val (.ref b1), .val (.int (1 : Int32)), .val (.int (p0 &&& (3 : Int32))), .val (.int (0 : Int32)), .val (.ref b38), .val (.int (p4 &&& (1 : Int32))), .unset, .unset] [(.int (1 : Int32)), (.int (p4 &&& (1 : Int32)))])) (fun t kt => ?_) ?_
        · show Steps p.tables e below (T39.setTop (mkF m 77 #[.val (.int p0), .val (.int p1), .val (.int p2), .val (.int p3), .val (.int p4), .val (.ref b1), .val (.int (1 : Int32)), .val (.int (p0 &&& (3 : Int32))), .val (.int (0 : Int32)), .unset, .unset, .unset, .unset] [(.ref b38)])) t
          refine XS.astore X39.here hx rfl (hb hby at_77) rfl rfl (l' := #[.val (.int p0), .val (.int p1), .val (.int p2), .val (.int p3), .val (.int p4), .val (.ref b1), .val (.int (1 : Int32)), .val (.int (p0 &&& (3 : Int32))), .val (.int (0 : Int32)), .val (.ref b38), .unset, .unset, .unset]) rfl ?_
          show Steps p.tables e below (T39.setTop (mkF m 79 #[.val (.int p0), .val (.int p1), .val (.int p2), .val (.int p3), .val (.int p4), .val (.ref b1), .val (.int (1 : Int32)), .val (.int (p0 &&& (3 : Int32))), .val (.int (0 : Int32)), .val (.ref b38), .unset, .unset, .unset] [])) t
          refine XS.iload X39.here hx rfl (hb hby at_79) rfl ?_
          show Steps p.tables e below (T39.setTop (mkF m 81 #[.val (.int p0), .val (.int p1), .val (.int p2), .val (.int p3), .val (.int p4), .val (.ref b1), .val (.int (1 : Int32)), .val (.int (p0 &&& (3 : Int32))), .val (.int (0 : Int32)), .val (.ref b38), .unset, .unset, .unset] [(.int p4)])) t
          refine XS.iconst X39.here hx rfl (hb hby at_81) ?_
          show Steps p.tables e below (T39.setTop (mkF m 82 #[.val (.int p0), .val (.int p1), .val (.int p2), .val (.int p3), .val (.int p4), .val (.ref b1), .val (.int (1 : Int32)), .val (.int (p0 &&& (3 : Int32))), .val (.int (0 : Int32)), .val (.ref b38), .unset, .unset, .unset] [(.int (1 : Int32)), (.int p4)])) t
          refine XS.iand X39.here hx rfl (hb hby at_82) rfl ?_
          show Steps p.tables e below (T39.setTop (mkF m 83 #[.val (.int p0), .val (.int p1), .val (.int p2), .val (.int p3), .val (.int p4), .val (.ref b1), .val (.int (1 : Int32)), .val (.int (p0 &&& (3 : Int32))), .val (.int (0 : Int32)), .val (.ref b38), .unset, .unset, .unset] [(.int (p4 &&& (1 : Int32)))])) t
          refine XS.istore X39.here hx rfl (hb hby at_83) rfl (l' := #[.val (.int p0), .val (.int p1), .val (.int p2), .val (.int p3), .val (.int p4), .val (.ref b1), .val (.int (1 : Int32)), .val (.int (p0 &&& (3 : Int32))), .val (.int (0 : Int32)), .val (.ref b38), .val (.int (p4 &&& (1 : Int32))), .unset, .unset]) rfl ?_
          show Steps p.tables e below (T39.setTop (mkF m 85 #[.val (.int p0), .val (.int p1), .val (.int p2), .val (.int p3), .val (.int p4), .val (.ref b1), .val (.int (1 : Int32)), .val (.int (p0 &&& (3 : Int32))), .val (.int (0 : Int32)), .val (.ref b38), .val (.int (p4 &&& (1 : Int32))), .unset, .unset] [])) t
          refine XS.iload X39.here hx rfl (hb hby at_85) rfl ?_
          show Steps p.tables e below (T39.setTop (mkF m 87 #[.val (.int p0), .val (.int p1), .val (.int p2), .val (.int p3), .val (.int p4), .val (.ref b1), .val (.int (1 : Int32)), .val (.int (p0 &&& (3 : Int32))), .val (.int (0 : Int32)), .val (.ref b38), .val (.int (p4 &&& (1 : Int32))), .unset, .unset] [(.int (p4 &&& (1 : Int32)))])) t
          refine XS.iconst X39.here hx rfl (hb hby at_87) ?_
          exact kt
        by_cases hc88 : (p4 &&& (1 : Int32)) = (1 : Int32)
        · refine OGo.step (F' := T39.setTop (mkF m 91 #[.val (.int p0), .val (.int p1), .val (.int p2), .val (.int p3), .val (.int p4), .val (.ref b1), .val (.int (1 : Int32)), .val (.int (p0 &&& (3 : Int32))), .val (.int (0 : Int32)), .val (.ref b38), .val (.int (p4 &&& (1 : Int32))), .unset, .unset] [])) (fun t kt => ?_) ?_
          · show Steps p.tables e below (T39.setTop (mkF m 88 #[.val (.int p0), .val (.int p1), .val (.int p2), .val (.int p3), .val (.int p4), .val (.ref b1), .val (.int (1 : Int32)), .val (.int (p0 &&& (3 : Int32))), .val (.int (0 : Int32)), .val (.ref b38), .val (.int (p4 &&& (1 : Int32))), .unset, .unset] [(.int (1 : Int32)), (.int (p4 &&& (1 : Int32)))])) t
            refine XS.icmpNo X39.here hx rfl (hb hby at_88) rfl (teq hc88).2 ?_
            exact kt
          refine OGo.step (F' := T39.setTop (mkF m 99 #[.val (.int p0), .val (.int p1), .val (.int p2), .val (.int p3), .val (.int p4), .val (.ref b1), .val (.int (1 : Int32)), .val (.int (p0 &&& (3 : Int32))), .val (.int (0 : Int32)), .val (.ref b38), .val (.int (p4 &&& (1 : Int32))), .unset, .unset] [(.long (((p4 >>> ((1 : Int32) &&& 31)).toInt16.toInt32).toInt64)), (.ref b38)])) (fun t kt => ?_) ?_
          · show Steps p.tables e below (T39.setTop (mkF m 91 #[.val (.int p0), .val (.int p1), .val (.int p2), .val (.int p3), .val (.int p4), .val (.ref b1), .val (.int (1 : Int32)), .val (.int (p0 &&& (3 : Int32))), .val (.int (0 : Int32)), .val (.ref b38), .val (.int (p4 &&& (1 : Int32))), .unset, .unset] [])) t
            refine XS.aload X39.here hx rfl (hb hby at_91) rfl rfl ?_
            show Steps p.tables e below (T39.setTop (mkF m 93 #[.val (.int p0), .val (.int p1), .val (.int p2), .val (.int p3), .val (.int p4), .val (.ref b1), .val (.int (1 : Int32)), .val (.int (p0 &&& (3 : Int32))), .val (.int (0 : Int32)), .val (.ref b38), .val (.int (p4 &&& (1 : Int32))), .unset, .unset] [(.ref b38)])) t
            refine XS.iload X39.here hx rfl (hb hby at_93) rfl ?_
            show Steps p.tables e below (T39.setTop (mkF m 95 #[.val (.int p0), .val (.int p1), .val (.int p2), .val (.int p3), .val (.int p4), .val (.ref b1), .val (.int (1 : Int32)), .val (.int (p0 &&& (3 : Int32))), .val (.int (0 : Int32)), .val (.ref b38), .val (.int (p4 &&& (1 : Int32))), .unset, .unset] [(.int p4), (.ref b38)])) t
            refine XS.iconst X39.here hx rfl (hb hby at_95) ?_
            show Steps p.tables e below (T39.setTop (mkF m 96 #[.val (.int p0), .val (.int p1), .val (.int p2), .val (.int p3), .val (.int p4), .val (.ref b1), .val (.int (1 : Int32)), .val (.int (p0 &&& (3 : Int32))), .val (.int (0 : Int32)), .val (.ref b38), .val (.int (p4 &&& (1 : Int32))), .unset, .unset] [(.int (1 : Int32)), (.int p4), (.ref b38)])) t
            refine XS.ishr X39.here hx rfl (hb hby at_96) rfl ?_
            show Steps p.tables e below (T39.setTop (mkF m 97 #[.val (.int p0), .val (.int p1), .val (.int p2), .val (.int p3), .val (.int p4), .val (.ref b1), .val (.int (1 : Int32)), .val (.int (p0 &&& (3 : Int32))), .val (.int (0 : Int32)), .val (.ref b38), .val (.int (p4 &&& (1 : Int32))), .unset, .unset] [(.int (p4 >>> ((1 : Int32) &&& 31))), (.ref b38)])) t
            refine XS.i2s X39.here hx rfl (hb hby at_97) rfl ?_
            show Steps p.tables e below (T39.setTop (mkF m 98 #[.val (.int p0), .val (.int p1), .val (.int p2), .val (.int p3), .val (.int p4), .val (.ref b1), .val (.int (1 : Int32)), .val (.int (p0 &&& (3 : Int32))), .val (.int (0 : Int32)), .val (.ref b38), .val (.int (p4 &&& (1 : Int32))), .unset, .unset] [(.int ((p4 >>> ((1 : Int32) &&& 31)).toInt16.toInt32)), (.ref b38)])) t
            refine XS.i2l X39.here hx rfl (hb hby at_98) rfl ?_
            exact kt
          refine OGo.callV X39 hx hZ (y := (⟨"com/example/oddhands/oddhands/simulator/Sample", "add", "(J)V"⟩ : MethodName)) (z := (⟨"com/example/oddhands/oddhands/simulator/Sample", "add", "(J)V"⟩ : MethodName)) hown (own_wd hw 29 rfl) (own_wd hw 30 rfl) (notFace_of_selects (args := #[]) (mvT hZ (own_wd hw 32 rfl))) (own_wd hw 32 rfl) (own_wd hw 31 rfl) (own_wd hw 2 rfl) (own_wd hw 33 rfl) (by decide) (rm6 l Z az hw [] b38 (((p4 >>> ((1 : Int32) &&& 31)).toInt16.toInt32).toInt64) (0 : Int64) (0 : Int64) (0 : Int64) 0 h38 n0 (Nat.le_trans Z0 KC38.1) F38_size F38_sum F38_sumOfSquares own_ok0 (by decide) (own_sh16 _) A38 gn_b38) (W := 0) (by decide) (by decide) A38 (g := (mkF m 99 #[.val (.int p0), .val (.int p1), .val (.int p2), .val (.int p3), .val (.int p4), .val (.ref b1), .val (.int (1 : Int32)), .val (.int (p0 &&& (3 : Int32))), .val (.int (0 : Int32)), .val (.ref b38), .val (.int (p4 &&& (1 : Int32))), .unset, .unset] [(.long (((p4 >>> ((1 : Int32) &&& 31)).toInt16.toInt32).toInt64)), (.ref b38)])) rfl (by rw [hml]; rfl) (argsL := [(.long (((p4 >>> ((1 : Int32) &&& 31)).toInt16.toInt32).toInt64))]) (rest := []) (lenOf pd_0_2 rfl) rfl (by show 2 * 0 + _ ≤ _; exact Nat.le_of_eq rfl) (hb hby at_99) rfl e39 (by decide) (by decide) ?_
          rintro _ T40 L40 X40 ⟨rfl, Nq40, K40, P40_0, P40_1, P40_2, P40_3⟩
          have KC40 : Keep h0 T40.heap [] := KC38.trans K40 (allS (Or.inr sz_b38) all0)
          have N40 := Fr.app N39 Nq40
          show OGo _ _ _ _ _ _ _ (T40.setTop (mkF m 102 #[.val (.int p0), .val (.int p1), .val (.int p2), .val (.int p3), .val (.int p4), .val (.ref b1), .val (.int (1 : Int32)), .val (.int (p0 &&& (3 : Int32))), .val (.int (0 : Int32)), .val (.ref b38), .val (.int (p4 &&& (1 : Int32))), .unset, .unset] []))
          refine OGo.step (F' := T40.setTop (mkF m 104 #[.val (.int p0), .val (.int p1), .val (.int p2), .val (.int p3), .val (.int p4), .val (.ref b1), .val (.int (1 : Int32)), .val (.int (p0 &&& (3 : Int32))), .val (.int (0 : Int32)), .val (.ref b38), .val (.int (p4 &&& (1 : Int32))), .unset, .unset] [(.ref b38)])) (fun t kt => ?_) ?_
          · show Steps p.tables e below (T40.setTop (mkF m 102 #[.val (.int p0), .val (.int p1), .val (.int p2), .val (.int p3), .val (.int p4), .val (.ref b1), .val (.int (1 : Int32)), .val (.int (p0 &&& (3 : Int32))), .val (.int (0 : Int32)), .val (.ref b38), .val (.int (p4 &&& (1 : Int32))), .unset, .unset] [])) t
            refine XS.aload X40.here hx rfl (hb hby at_102) rfl rfl ?_
            exact kt
          refine OGo.callV X40 hx hZ (y := (⟨"com/example/oddhands/oddhands/simulator/Sample", "isEmpty", "()Z"⟩ : MethodName)) (z := (⟨"com/example/oddhands/oddhands/simulator/Sample", "isEmpty", "()Z"⟩ : MethodName)) hown (own_wd hw 9 rfl) (own_wd hw 10 rfl) (notFace_of_selects (args := #[]) (mvT hZ (own_wd hw 12 rfl))) (own_wd hw 12 rfl) (own_wd hw 11 rfl) (own_wd hw 2 rfl) (own_wd hw 13 rfl) (by decide) (rm3 l Z az hw [] b38 (f7 (0 : Int64)) T40.heap n0 (Nat.le_trans Z0 KC40.1) P40_1) (W := 0) (by decide) (by decide) P40_0 (g := (mkF m 104 #[.val (.int p0), .val (.int p1), .val (.int p2), .val (.int p3), .val (.int p4), .val (.ref b1), .val (.int (1 : Int32)), .val (.int (p0 &&& (3 : Int32))), .val (.int (0 : Int32)), .val (.ref b38), .val (.int (p4 &&& (1 : Int32))), .unset, .unset] [(.ref b38)])) rfl (by rw [hml]; rfl) (argsL := []) (rest := []) (lenOf pd_0_1 rfl) rfl (by show 2 * 0 + _ ≤ _; exact Nat.le_of_eq rfl) (hb hby at_104) rfl rfl (by decide) (by decide) ?_
          rintro _ T41 L41 X41 ⟨hv41, Nq41, e41⟩
          have N41 := Fr.app N40 Nq41
          rw [show (f3 (f7 (0 : Int64))) = (0 : Int32) from by decide] at hv41
          subst hv41
          show OGo _ _ _ _ _ _ _ (T41.setTop (mkF m 107 #[.val (.int p0), .val (.int p1), .val (.int p2), .val (.int p3), .val (.int p4), .val (.ref b1), .val (.int (1 : Int32)), .val (.int (p0 &&& (3 : Int32))), .val (.int (0 : Int32)), .val (.ref b38), .val (.int (p4 &&& (1 : Int32))), .unset, .unset] [(.int (0 : Int32))]))
          refine OGo.step (F' := T41.setTop (mkF m 113 #[.val (.int p0), .val (.int p1), .val (.int p2), .val (.int p3), .val (.int p4), .val (.ref b1), .val (.int (1 : Int32)), .val (.int (p0 &&& (3 : Int32))), .val (.int (0 : Int32)), .val (.ref b38), .val (.int (p4 &&& (1 : Int32))), .val (.int (0 : Int32)), .unset] [(.ref b38), (.ref b1)])) (fun t kt => ?_) ?_
          · show Steps p.tables e below (T41.setTop (mkF m 107 #[.val (.int p0), .val (.int p1), .val (.int p2), .val (.int p3), .val (.int p4), .val (.ref b1), .val (.int (1 : Int32)), .val (.int (p0 &&& (3 : Int32))), .val (.int (0 : Int32)), .val (.ref b38), .val (.int (p4 &&& (1 : Int32))), .unset, .unset] [(.int (0 : Int32))])) t
            refine XS.istore X41.here hx rfl (hb hby at_107) rfl (l' := #[.val (.int p0), .val (.int p1), .val (.int p2), .val (.int p3), .val (.int p4), .val (.ref b1), .val (.int (1 : Int32)), .val (.int (p0 &&& (3 : Int32))), .val (.int (0 : Int32)), .val (.ref b38), .val (.int (p4 &&& (1 : Int32))), .val (.int (0 : Int32)), .unset]) rfl ?_
            show Steps p.tables e below (T41.setTop (mkF m 109 #[.val (.int p0), .val (.int p1), .val (.int p2), .val (.int p3), .val (.int p4), .val (.ref b1), .val (.int (1 : Int32)), .val (.int (p0 &&& (3 : Int32))), .val (.int (0 : Int32)), .val (.ref b38), .val (.int (p4 &&& (1 : Int32))), .val (.int (0 : Int32)), .unset] [])) t
            refine XS.aload X41.here hx rfl (hb hby at_109) rfl rfl ?_
            show Steps p.tables e below (T41.setTop (mkF m 111 #[.val (.int p0), .val (.int p1), .val (.int p2), .val (.int p3), .val (.int p4), .val (.ref b1), .val (.int (1 : Int32)), .val (.int (p0 &&& (3 : Int32))), .val (.int (0 : Int32)), .val (.ref b38), .val (.int (p4 &&& (1 : Int32))), .val (.int (0 : Int32)), .unset] [(.ref b1)])) t
            refine XS.aload X41.here hx rfl (hb hby at_111) rfl rfl ?_
            exact kt
          refine OGo.callV X41 hx hZ (y := (⟨"com/example/oddhands/oddhands/simulator/Sample", "add", "(Lcom/example/oddhands/oddhands/simulator/Sample;)V"⟩ : MethodName)) (z := (⟨"com/example/oddhands/oddhands/simulator/Sample", "add", "(Lcom/example/oddhands/oddhands/simulator/Sample;)V"⟩ : MethodName)) hown (own_wd hw 16 rfl) (own_wd hw 17 rfl) (notFace_of_selects (args := #[]) (mvT hZ (own_wd hw 19 rfl))) (own_wd hw 19 rfl) (own_wd hw 18 rfl) (own_wd hw 2 rfl) (own_wd hw 20 rfl) (by decide) (rm4 l Z az hw [] b1 b38 (f7 (f7 (f7 (0 : Int64)))) (f5 (f5 (f5 (0 : Int64) ((p1.toInt16.toInt32).toInt64)) ((p2.toInt16.toInt32).toInt64)) ((p3.toInt16.toInt32).toInt64)) (f5 (f5 (f5 (0 : Int64) (f8 ((p1.toInt16.toInt32).toInt64) ((p1.toInt16.toInt32).toInt64))) (f8 ((p2.toInt16.toInt32).toInt64) ((p2.toInt16.toInt32).toInt64))) (f8 ((p3.toInt16.toInt32).toInt64) ((p3.toInt16.toInt32).toInt64))) (f7 (0 : Int64)) (f5 (0 : Int64) (((p4 >>> ((1 : Int32) &&& 31)).toInt16.toInt32).toInt64)) (f5 (0 : Int64) (f8 (((p4 >>> ((1 : Int32) &&& 31)).toInt16.toInt32).toInt64) (((p4 >>> ((1 : Int32) &&& 31)).toInt16.toInt32).toInt64))) 3 1 T40.heap n0 (Nat.le_trans Z0 KC40.1) ((P36_1.ext E38).keep K40 (ninS (Nat.ne_of_lt (Nat.lt_of_lt_of_le P36_0.lt (Nat.le_of_eq g38.symm))) nin0)) ((P36_2.ext E38).keep K40 (ninS (Nat.ne_of_lt (Nat.lt_of_lt_of_le P36_0.lt (Nat.le_of_eq g38.symm))) nin0)) ((P36_3.ext E38).keep K40 (ninS (Nat.ne_of_lt (Nat.lt_of_lt_of_le P36_0.lt (Nat.le_of_eq g38.symm))) nin0)) P40_1 P40_2 P40_3 (own_step 2 _ _ _ _ (own_step 1 _ _ _ _ (own_step 0 _ _ _ _ own_ok0 (own_sh16 _) (by decide)) (own_sh16 _) (by decide)) (own_sh16 _) (by decide)) (own_step 0 _ _ _ _ own_ok0 (own_sh16 _) (by decide)) (by decide) (by decide) (Ne.symm (Nat.ne_of_lt (Nat.lt_of_lt_of_le P36_0.lt (Nat.le_of_eq g38.symm)))) ((P36_0.ext E38).keep K40) gn_b1) (W := 0) (by decide) (by decide) ((P36_0.ext E38).keep K40) (g := (mkF m 113 #[.val (.int p0), .val (.int p1), .val (.int p2), .val (.int p3), .val (.int p4), .val (.ref b1), .val (.int (1 : Int32)), .val (.int (p0 &&& (3 : Int32))), .val (.int (0 : Int32)), .val (.ref b38), .val (.int (p4 &&& (1 : Int32))), .val (.int (0 : Int32)), .unset] [(.ref b38), (.ref b1)])) rfl (by rw [hml]; rfl) (argsL := [(.ref b38)]) (rest := []) (lenOf pd_0_3 rfl) rfl (by show 2 * 0 + _ ≤ _; exact Nat.le_of_eq rfl) (hb hby at_113) rfl e41 (by decide) (by decide) ?_
          rintro _ T42 L42 X42 ⟨rfl, Nq42, K42, P42_0, P42_1⟩
          have KC42 : Keep h0 T42.heap [] := KC40.trans K42 (allS (Or.inr sz_b1) all0)
          have N42 := Fr.app N41 Nq42
          show OGo _ _ _ _ _ _ _ (T42.setTop (mkF m 116 #[.val (.int p0), .val (.int p1), .val (.int p2), .val (.int p3), .val (.int p4), .val (.ref b1), .val (.int (1 : Int32)), .val (.int (p0 &&& (3 : Int32))), .val (.int (0 : Int32)), .val (.ref b38), .val (.int (p4 &&& (1 : Int32))), .val (.int (0 : Int32)), .unset] []))
          refine OGo.step (F' := T42.setTop (mkF m 118 #[.val (.int p0), .val (.int p1), .val (.int p2), .val (.int p3), .val (.int p4), .val (.ref b1), .val (.int (1 : Int32)), .val (.int (p0 &&& (3 : Int32))), .val (.int (0 : Int32)), .val (.ref b38), .val (.int (p4 &&& (1 : Int32))), .val (.int (0 : Int32)), .unset] [(.ref b1)])) (fun t kt => ?_) ?_
          · show Steps p.tables e below (T42.setTop (mkF m 116 #[.val (.int p0), .val (.int p1), .val (.int p2), .val (.int p3), .val (.int p4), .val (.ref b1), .val (.int (1 : Int32)), .val (.int (p0 &&& (3 : Int32))), .val (.int (0 : Int32)), .val (.ref b38), .val (.int (p4 &&& (1 : Int32))), .val (.int (0 : Int32)), .unset] [])) t
            refine XS.aload X42.here hx rfl (hb hby at_116) rfl rfl ?_
            exact kt
          refine OGo.callV X42 hx hZ (y := (⟨"com/example/oddhands/oddhands/simulator/Sample", "isEmpty", "()Z"⟩ : MethodName)) (z := (⟨"com/example/oddhands/oddhands/simulator/Sample", "isEmpty", "()Z"⟩ : MethodName)) hown (own_wd hw 9 rfl) (own_wd hw 10 rfl) (notFace_of_selects (args := #[]) (mvT hZ (own_wd hw 12 rfl))) (own_wd hw 12 rfl) (own_wd hw 11 rfl) (own_wd hw 2 rfl) (own_wd hw 13 rfl) (by decide) (rm3 l Z az hw [] b1 (f5 (f7 (f7 (f7 (0 : Int64)))) (f7 (0 : Int64))) T42.heap n0 (Nat.le_trans Z0 KC42.1) P42_1) (W := 0) (by decide) (by decide) P42_0 (g := (mkF m 118 #[.val (.int p0), .val (.int p1), .val (.int p2), .val (.int p3), .val (.int p4), .val (.ref b1), .val (.int (1 : Int32)), .val (.int (p0 &&& (3 : Int32))), .val (.int (0 : Int32)), .val (.ref b38), .val (.int (p4 &&& (1 : Int32))), .val (.int (0 : Int32)), .unset] [(.ref b1)])) rfl (by rw [hml]; rfl) (argsL := []) (rest := []) (lenOf pd_0_1 rfl) rfl (by show 2 * 0 + _ ≤ _; exact Nat.le_of_eq rfl) (hb hby at_118) rfl rfl (by decide) (by decide) ?_
          rintro _ T43 L43 X43 ⟨hv43, Nq43, e43⟩
          have N43 := Fr.app N42 Nq43
          rw [show (f3 (f5 (f7 (f7 (f7 (0 : Int64)))) (f7 (0 : Int64)))) = (0 : Int32) from by decide] at hv43
          subst hv43
          show OGo _ _ _ _ _ _ _ (T43.setTop (mkF m 121 #[.val (.int p0), .val (.int p1), .val (.int p2), .val (.int p3), .val (.int p4), .val (.ref b1), .val (.int (1 : Int32)), .val (.int (p0 &&& (3 : Int32))), .val (.int (0 : Int32)), .val (.ref b38), .val (.int (p4 &&& (1 : Int32))), .val (.int (0 : Int32)), .unset] [(.int (0 : Int32))]))
          refine OGo.step (F' := T43.setTop (mkF m 183 #[.val (.int p0), .val (.int p1), .val (.int p2), .val (.int p3), .val (.int p4), .val (.ref b1), .val (.int (1 : Int32)), .val (.int (p0 &&& (3 : Int32))), .val (.int (0 : Int32)), .val (.ref b38), .val (.int (p4 &&& (1 : Int32))), .val (.int (0 : Int32)), .val (.int (0 : Int32))] [(.int (1 : Int32))])) (fun t kt => ?_) ?_
          · show Steps p.tables e below (T43.setTop (mkF m 121 #[.val (.int p0), .val (.int p1), .val (.int p2), .val (.int p3), .val (.int p4), .val (.ref b1), .val (.int (1 : Int32)), .val (.int (p0 &&& (3 : Int32))), .val (.int (0 : Int32)), .val (.ref b38), .val (.int (p4 &&& (1 : Int32))), .val (.int (0 : Int32)), .unset] [(.int (0 : Int32))])) t
            refine XS.istore X43.here hx rfl (hb hby at_121) rfl (l' := #[.val (.int p0), .val (.int p1), .val (.int p2), .val (.int p3), .val (.int p4), .val (.ref b1), .val (.int (1 : Int32)), .val (.int (p0 &&& (3 : Int32))), .val (.int (0 : Int32)), .val (.ref b38), .val (.int (p4 &&& (1 : Int32))), .val (.int (0 : Int32)), .val (.int (0 : Int32))]) rfl ?_
            show Steps p.tables e below (T43.setTop (mkF m 123 #[.val (.int p0), .val (.int p1), .val (.int p2), .val (.int p3), .val (.int p4), .val (.ref b1), .val (.int (1 : Int32)), .val (.int (p0 &&& (3 : Int32))), .val (.int (0 : Int32)), .val (.ref b38), .val (.int (p4 &&& (1 : Int32))), .val (.int (0 : Int32)), .val (.int (0 : Int32))] [])) t
            refine XS.iload X43.here hx rfl (hb hby at_123) rfl ?_
            show Steps p.tables e below (T43.setTop (mkF m 125 #[.val (.int p0), .val (.int p1), .val (.int p2), .val (.int p3), .val (.int p4), .val (.ref b1), .val (.int (1 : Int32)), .val (.int (p0 &&& (3 : Int32))), .val (.int (0 : Int32)), .val (.ref b38), .val (.int (p4 &&& (1 : Int32))), .val (.int (0 : Int32)), .val (.int (0 : Int32))] [(.int (1 : Int32))])) t
            refine XS.ifNo X43.here hx rfl (hb hby at_125) rfl ((if0 _ _).trans (feq (by decide : ¬ ((1 : Int32) = (0 : Int32)))).1) ?_
            show Steps p.tables e below (T43.setTop (mkF m 128 #[.val (.int p0), .val (.int p1), .val (.int p2), .val (.int p3), .val (.int p4), .val (.ref b1), .val (.int (1 : Int32)), .val (.int (p0 &&& (3 : Int32))), .val (.int (0 : Int32)), .val (.ref b38), .val (.int (p4 &&& (1 : Int32))), .val (.int (0 : Int32)), .val (.int (0 : Int32))] [])) t
            refine XS.iload X43.here hx rfl (hb hby at_128) rfl ?_
            show Steps p.tables e below (T43.setTop (mkF m 130 #[.val (.int p0), .val (.int p1), .val (.int p2), .val (.int p3), .val (.int p4), .val (.ref b1), .val (.int (1 : Int32)), .val (.int (p0 &&& (3 : Int32))), .val (.int (0 : Int32)), .val (.ref b38), .val (.int (p4 &&& (1 : Int32))), .val (.int (0 : Int32)), .val (.int (0 : Int32))] [(.int (0 : Int32))])) t
            refine XS.iload X43.here hx rfl (hb hby at_130) rfl ?_
            show Steps p.tables e below (T43.setTop (mkF m 132 #[.val (.int p0), .val (.int p1), .val (.int p2), .val (.int p3), .val (.int p4), .val (.ref b1), .val (.int (1 : Int32)), .val (.int (p0 &&& (3 : Int32))), .val (.int (0 : Int32)), .val (.ref b38), .val (.int (p4 &&& (1 : Int32))), .val (.int (0 : Int32)), .val (.int (0 : Int32))] [(.int (p0 &&& (3 : Int32))), (.int (0 : Int32))])) t
            refine XS.ifYes X43.here hx rfl (pc0 := 132) (pc' := 139) rfl (hb hby at_132) rfl ((if0 _ _).trans (feq (own_k1 hc24)).2) (by decide) (by decide) ?_
            show Steps p.tables e below (T43.setTop (mkF m 139 #[.val (.int p0), .val (.int p1), .val (.int p2), .val (.int p3), .val (.int p4), .val (.ref b1), .val (.int (1 : Int32)), .val (.int (p0 &&& (3 : Int32))), .val (.int (0 : Int32)), .val (.ref b38), .val (.int (p4 &&& (1 : Int32))), .val (.int (0 : Int32)), .val (.int (0 : Int32))] [(.int (0 : Int32))])) t
            refine XS.iconst X43.here hx rfl (hb hby at_139) ?_
            show Steps p.tables e below (T43.setTop (mkF m 140 #[.val (.int p0), .val (.int p1), .val (.int p2), .val (.int p3), .val (.int p4), .val (.ref b1), .val (.int (1 : Int32)), .val (.int (p0 &&& (3 : Int32))), .val (.int (0 : Int32)), .val (.ref b38), .val (.int (p4 &&& (1 : Int32))), .val (.int (0 : Int32)), .val (.int (0 : Int32))] [(.int (0 : Int32)), (.int (0 : Int32))])) t
            refine XS.icmpNo X43.here hx rfl (hb hby at_140) rfl (teq (by decide : (0 : Int32) = (0 : Int32))).2 ?_
            show Steps p.tables e below (T43.setTop (mkF m 143 #[.val (.int p0), .val (.int p1), .val (.int p2), .val (.int p3), .val (.int p4), .val (.ref b1), .val (.int (1 : Int32)), .val (.int (p0 &&& (3 : Int32))), .val (.int (0 : Int32)), .val (.ref b38), .val (.int (p4 &&& (1 : Int32))), .val (.int (0 : Int32)), .val (.int (0 : Int32))] [])) t
            refine XS.iload X43.here hx rfl (hb hby at_143) rfl ?_
            show Steps p.tables e below (T43.setTop (mkF m 145 #[.val (.int p0), .val (.int p1), .val (.int p2), .val (.int p3), .val (.int p4), .val (.ref b1), .val (.int (1 : Int32)), .val (.int (p0 &&& (3 : Int32))), .val (.int (0 : Int32)), .val (.ref b38), .val (.int (p4 &&& (1 : Int32))), .val (.int (0 : Int32)), .val (.int (0 : Int32))] [(.int (0 : Int32))])) t
            refine XS.iload X43.here hx rfl (hb hby at_145) rfl ?_
            show Steps p.tables e below (T43.setTop (mkF m 147 #[.val (.int p0), .val (.int p1), .val (.int p2), .val (.int p3), .val (.int p4), .val (.ref b1), .val (.int (1 : Int32)), .val (.int (p0 &&& (3 : Int32))), .val (.int (0 : Int32)), .val (.ref b38), .val (.int (p4 &&& (1 : Int32))), .val (.int (0 : Int32)), .val (.int (0 : Int32))] [(.int (p4 &&& (1 : Int32))), (.int (0 : Int32))])) t
            refine XS.ifYes X43.here hx rfl (pc0 := 147) (pc' := 154) rfl (hb hby at_147) rfl ((if0 _ _).trans (feq (own_j1 hc88)).2) (by decide) (by decide) ?_
            show Steps p.tables e below (T43.setTop (mkF m 154 #[.val (.int p0), .val (.int p1), .val (.int p2), .val (.int p3), .val (.int p4), .val (.ref b1), .val (.int (1 : Int32)), .val (.int (p0 &&& (3 : Int32))), .val (.int (0 : Int32)), .val (.ref b38), .val (.int (p4 &&& (1 : Int32))), .val (.int (0 : Int32)), .val (.int (0 : Int32))] [(.int (0 : Int32))])) t
            refine XS.iconst X43.here hx rfl (hb hby at_154) ?_
            show Steps p.tables e below (T43.setTop (mkF m 155 #[.val (.int p0), .val (.int p1), .val (.int p2), .val (.int p3), .val (.int p4), .val (.ref b1), .val (.int (1 : Int32)), .val (.int (p0 &&& (3 : Int32))), .val (.int (0 : Int32)), .val (.ref b38), .val (.int (p4 &&& (1 : Int32))), .val (.int (0 : Int32)), .val (.int (0 : Int32))] [(.int (0 : Int32)), (.int (0 : Int32))])) t
            refine XS.icmpNo X43.here hx rfl (hb hby at_155) rfl (teq (by decide : (0 : Int32) = (0 : Int32))).2 ?_
            show Steps p.tables e below (T43.setTop (mkF m 158 #[.val (.int p0), .val (.int p1), .val (.int p2), .val (.int p3), .val (.int p4), .val (.ref b1), .val (.int (1 : Int32)), .val (.int (p0 &&& (3 : Int32))), .val (.int (0 : Int32)), .val (.ref b38), .val (.int (p4 &&& (1 : Int32))), .val (.int (0 : Int32)), .val (.int (0 : Int32))] [])) t
            refine XS.iload X43.here hx rfl (hb hby at_158) rfl ?_
            show Steps p.tables e below (T43.setTop (mkF m 160 #[.val (.int p0), .val (.int p1), .val (.int p2), .val (.int p3), .val (.int p4), .val (.ref b1), .val (.int (1 : Int32)), .val (.int (p0 &&& (3 : Int32))), .val (.int (0 : Int32)), .val (.ref b38), .val (.int (p4 &&& (1 : Int32))), .val (.int (0 : Int32)), .val (.int (0 : Int32))] [(.int (0 : Int32))])) t
            refine XS.iload X43.here hx rfl (hb hby at_160) rfl ?_
            show Steps p.tables e below (T43.setTop (mkF m 162 #[.val (.int p0), .val (.int p1), .val (.int p2), .val (.int p3), .val (.int p4), .val (.ref b1), .val (.int (1 : Int32)), .val (.int (p0 &&& (3 : Int32))), .val (.int (0 : Int32)), .val (.ref b38), .val (.int (p4 &&& (1 : Int32))), .val (.int (0 : Int32)), .val (.int (0 : Int32))] [(.int (p0 &&& (3 : Int32))), (.int (0 : Int32))])) t
            refine XS.ifYes X43.here hx rfl (pc0 := 162) (pc' := 174) rfl (hb hby at_162) rfl ((if0 _ _).trans (feq (own_k1 hc24)).2) (by decide) (by decide) ?_
            show Steps p.tables e below (T43.setTop (mkF m 174 #[.val (.int p0), .val (.int p1), .val (.int p2), .val (.int p3), .val (.int p4), .val (.ref b1), .val (.int (1 : Int32)), .val (.int (p0 &&& (3 : Int32))), .val (.int (0 : Int32)), .val (.ref b38), .val (.int (p4 &&& (1 : Int32))), .val (.int (0 : Int32)), .val (.int (0 : Int32))] [(.int (0 : Int32))])) t
            refine XS.iconst X43.here hx rfl (hb hby at_174) ?_
            show Steps p.tables e below (T43.setTop (mkF m 175 #[.val (.int p0), .val (.int p1), .val (.int p2), .val (.int p3), .val (.int p4), .val (.ref b1), .val (.int (1 : Int32)), .val (.int (p0 &&& (3 : Int32))), .val (.int (0 : Int32)), .val (.ref b38), .val (.int (p4 &&& (1 : Int32))), .val (.int (0 : Int32)), .val (.int (0 : Int32))] [(.int (0 : Int32)), (.int (0 : Int32))])) t
            refine XS.icmpNo X43.here hx rfl (hb hby at_175) rfl (teq (by decide : (0 : Int32) = (0 : Int32))).2 ?_
            show Steps p.tables e below (T43.setTop (mkF m 178 #[.val (.int p0), .val (.int p1), .val (.int p2), .val (.int p3), .val (.int p4), .val (.ref b1), .val (.int (1 : Int32)), .val (.int (p0 &&& (3 : Int32))), .val (.int (0 : Int32)), .val (.ref b38), .val (.int (p4 &&& (1 : Int32))), .val (.int (0 : Int32)), .val (.int (0 : Int32))] [])) t
            refine XS.iconst X43.here hx rfl (hb hby at_178) ?_
            show Steps p.tables e below (T43.setTop (mkF m 179 #[.val (.int p0), .val (.int p1), .val (.int p2), .val (.int p3), .val (.int p4), .val (.ref b1), .val (.int (1 : Int32)), .val (.int (p0 &&& (3 : Int32))), .val (.int (0 : Int32)), .val (.ref b38), .val (.int (p4 &&& (1 : Int32))), .val (.int (0 : Int32)), .val (.int (0 : Int32))] [(.int (1 : Int32))])) t
            refine XS.goto X43.here hx rfl (pc0 := 179) (pc' := 183) rfl (hb hby at_179) (by decide) (by decide) ?_
            exact kt
          refine OGo.retZ X43 hx hlk (t := .boolean) (z' := (1 : Int32)) hret (by simp) (hb hby at_183) rfl ?_ (by decide) (by decide)
          show Q0 Z p0 p1 p2 p3 p4 h0 n0 _ T43.heap _
          rw [e43]
          exact ⟨(by rw [f0, if_neg hc24, if_neg hc38, if_neg hc52, if_pos hc88]), N43, KC42⟩
        · refine OGo.step (F' := T39.setTop (mkF m 102 #[.val (.int p0), .val (.int p1), .val (.int p2), .val (.int p3), .val (.int p4), .val (.ref b1), .val (.int (1 : Int32)), .val (.int (p0 &&& (3 : Int32))), .val (.int (0 : Int32)), .val (.ref b38), .val (.int (p4 &&& (1 : Int32))), .unset, .unset] [])) (fun t kt => ?_) ?_
          · show Steps p.tables e below (T39.setTop (mkF m 88 #[.val (.int p0), .val (.int p1), .val (.int p2), .val (.int p3), .val (.int p4), .val (.ref b1), .val (.int (1 : Int32)), .val (.int (p0 &&& (3 : Int32))), .val (.int (0 : Int32)), .val (.ref b38), .val (.int (p4 &&& (1 : Int32))), .unset, .unset] [(.int (1 : Int32)), (.int (p4 &&& (1 : Int32)))])) t
            refine XS.icmpYes X39.here hx rfl (pc0 := 88) (pc' := 102) rfl (hb hby at_88) rfl (feq hc88).2 (by decide) (by decide) ?_
            exact kt
          refine OGo.step (F' := T39.setTop (mkF m 104 #[.val (.int p0), .val (.int p1), .val (.int p2), .val (.int p3), .val (.int p4), .val (.ref b1), .val (.int (1 : Int32)), .val (.int (p0 &&& (3 : Int32))), .val (.int (0 : Int32)), .val (.ref b38), .val (.int (p4 &&& (1 : Int32))), .unset, .unset] [(.ref b38)])) (fun t kt => ?_) ?_
          · show Steps p.tables e below (T39.setTop (mkF m 102 #[.val (.int p0), .val (.int p1), .val (.int p2), .val (.int p3), .val (.int p4), .val (.ref b1), .val (.int (1 : Int32)), .val (.int (p0 &&& (3 : Int32))), .val (.int (0 : Int32)), .val (.ref b38), .val (.int (p4 &&& (1 : Int32))), .unset, .unset] [])) t
            refine XS.aload X39.here hx rfl (hb hby at_102) rfl rfl ?_
            exact kt
          refine OGo.callV X39 hx hZ (y := (⟨"com/example/oddhands/oddhands/simulator/Sample", "isEmpty", "()Z"⟩ : MethodName)) (z := (⟨"com/example/oddhands/oddhands/simulator/Sample", "isEmpty", "()Z"⟩ : MethodName)) hown (own_wd hw 9 rfl) (own_wd hw 10 rfl) (notFace_of_selects (args := #[]) (mvT hZ (own_wd hw 12 rfl))) (own_wd hw 12 rfl) (own_wd hw 11 rfl) (own_wd hw 2 rfl) (own_wd hw 13 rfl) (by decide) (rm3 l Z az hw [] b38 (0 : Int64) h38 n0 (Nat.le_trans Z0 KC38.1) F38_size) (W := 0) (by decide) (by decide) A38 (g := (mkF m 104 #[.val (.int p0), .val (.int p1), .val (.int p2), .val (.int p3), .val (.int p4), .val (.ref b1), .val (.int (1 : Int32)), .val (.int (p0 &&& (3 : Int32))), .val (.int (0 : Int32)), .val (.ref b38), .val (.int (p4 &&& (1 : Int32))), .unset, .unset] [(.ref b38)])) rfl (by rw [hml]; rfl) (argsL := []) (rest := []) (lenOf pd_0_1 rfl) rfl (by show 2 * 0 + _ ≤ _; exact Nat.le_of_eq rfl) (hb hby at_104) rfl e39 (by decide) (by decide) ?_
          rintro _ T44 L44 X44 ⟨hv44, Nq44, e44⟩
          have N44 := Fr.app N39 Nq44
          rw [show (f3 (0 : Int64)) = (1 : Int32) from by decide] at hv44
          subst hv44
          show OGo _ _ _ _ _ _ _ (T44.setTop (mkF m 107 #[.val (.int p0), .val (.int p1), .val (.int p2), .val (.int p3), .val (.int p4), .val (.ref b1), .val (.int (1 : Int32)), .val (.int (p0 &&& (3 : Int32))), .val (.int (0 : Int32)), .val (.ref b38), .val (.int (p4 &&& (1 : Int32))), .unset, .unset] [(.int (1 : Int32))]))
          refine OGo.step (F' := T44.setTop (mkF m 113 #[.val (.int p0), .val (.int p1), .val (.int p2), .val (.int p3), .val (.int p4), .val (.ref b1), .val (.int (1 : Int32)), .val (.int (p0 &&& (3 : Int32))), .val (.int (0 : Int32)), .val (.ref b38), .val (.int (p4 &&& (1 : Int32))), .val (.int (1 : Int32)), .unset] [(.ref b38), (.ref b1)])) (fun t kt => ?_) ?_
          · show Steps p.tables e below (T44.setTop (mkF m 107 #[.val (.int p0), .val (.int p1), .val (.int p2), .val (.int p3), .val (.int p4), .val (.ref b1), .val (.int (1 : Int32)), .val (.int (p0 &&& (3 : Int32))), .val (.int (0 : Int32)), .val (.ref b38), .val (.int (p4 &&& (1 : Int32))), .unset, .unset] [(.int (1 : Int32))])) t
            refine XS.istore X44.here hx rfl (hb hby at_107) rfl (l' := #[.val (.int p0), .val (.int p1), .val (.int p2), .val (.int p3), .val (.int p4), .val (.ref b1), .val (.int (1 : Int32)), .val (.int (p0 &&& (3 : Int32))), .val (.int (0 : Int32)), .val (.ref b38), .val (.int (p4 &&& (1 : Int32))), .val (.int (1 : Int32)), .unset]) rfl ?_
            show Steps p.tables e below (T44.setTop (mkF m 109 #[.val (.int p0), .val (.int p1), .val (.int p2), .val (.int p3), .val (.int p4), .val (.ref b1), .val (.int (1 : Int32)), .val (.int (p0 &&& (3 : Int32))), .val (.int (0 : Int32)), .val (.ref b38), .val (.int (p4 &&& (1 : Int32))), .val (.int (1 : Int32)), .unset] [])) t
            refine XS.aload X44.here hx rfl (hb hby at_109) rfl rfl ?_
            show Steps p.tables e below (T44.setTop (mkF m 111 #[.val (.int p0), .val (.int p1), .val (.int p2), .val (.int p3), .val (.int p4), .val (.ref b1), .val (.int (1 : Int32)), .val (.int (p0 &&& (3 : Int32))), .val (.int (0 : Int32)), .val (.ref b38), .val (.int (p4 &&& (1 : Int32))), .val (.int (1 : Int32)), .unset] [(.ref b1)])) t
            refine XS.aload X44.here hx rfl (hb hby at_111) rfl rfl ?_
            exact kt
          refine OGo.callV X44 hx hZ (y := (⟨"com/example/oddhands/oddhands/simulator/Sample", "add", "(Lcom/example/oddhands/oddhands/simulator/Sample;)V"⟩ : MethodName)) (z := (⟨"com/example/oddhands/oddhands/simulator/Sample", "add", "(Lcom/example/oddhands/oddhands/simulator/Sample;)V"⟩ : MethodName)) hown (own_wd hw 16 rfl) (own_wd hw 17 rfl) (notFace_of_selects (args := #[]) (mvT hZ (own_wd hw 19 rfl))) (own_wd hw 19 rfl) (own_wd hw 18 rfl) (own_wd hw 2 rfl) (own_wd hw 20 rfl) (by decide) (rm4 l Z az hw [] b1 b38 (f7 (f7 (f7 (0 : Int64)))) (f5 (f5 (f5 (0 : Int64) ((p1.toInt16.toInt32).toInt64)) ((p2.toInt16.toInt32).toInt64)) ((p3.toInt16.toInt32).toInt64)) (f5 (f5 (f5 (0 : Int64) (f8 ((p1.toInt16.toInt32).toInt64) ((p1.toInt16.toInt32).toInt64))) (f8 ((p2.toInt16.toInt32).toInt64) ((p2.toInt16.toInt32).toInt64))) (f8 ((p3.toInt16.toInt32).toInt64) ((p3.toInt16.toInt32).toInt64))) (0 : Int64) (0 : Int64) (0 : Int64) 3 0 h38 n0 (Nat.le_trans Z0 KC38.1) (P36_1.ext E38) (P36_2.ext E38) (P36_3.ext E38) F38_size F38_sum F38_sumOfSquares (own_step 2 _ _ _ _ (own_step 1 _ _ _ _ (own_step 0 _ _ _ _ own_ok0 (own_sh16 _) (by decide)) (own_sh16 _) (by decide)) (own_sh16 _) (by decide)) own_ok0 (by decide) (by decide) (Ne.symm (Nat.ne_of_lt (Nat.lt_of_lt_of_le P36_0.lt (Nat.le_of_eq g38.symm)))) (P36_0.ext E38) gn_b1) (W := 0) (by decide) (by decide) (P36_0.ext E38) (g := (mkF m 113 #[.val (.int p0), .val (.int p1), .val (.int p2), .val (.int p3), .val (.int p4), .val (.ref b1), .val (.int (1 : Int32)), .val (.int (p0 &&& (3 : Int32))), .val (.int (0 : Int32)), .val (.ref b38), .val (.int (p4 &&& (1 : Int32))), .val (.int (1 : Int32)), .unset] [(.ref b38), (.ref b1)])) rfl (by rw [hml]; rfl) (argsL := [(.ref b38)]) (rest := []) (lenOf pd_0_3 rfl) rfl (by show 2 * 0 + _ ≤ _; exact Nat.le_of_eq rfl) (hb hby at_113) rfl e44 (by decide) (by decide) ?_
          rintro _ T45 L45 X45 ⟨rfl, Nq45, K45, P45_0, P45_1⟩
          have KC45 : Keep h0 T45.heap [] := KC38.trans K45 (allS (Or.inr sz_b1) all0)
          have N45 := Fr.app N44 Nq45
          show OGo _ _ _ _ _ _ _ (T45.setTop (mkF m 116 #[.val (.int p0), .val (.int p1), .val (.int p2), .val (.int p3), .val (.int p4), .val (.ref b1), .val (.int (1 : Int32)), .val (.int (p0 &&& (3 : Int32))), .val (.int (0 : Int32)), .val (.ref b38), .val (.int (p4 &&& (1 : Int32))), .val (.int (1 : Int32)), .unset] []))
          refine OGo.step (F' := T45.setTop (mkF m 118 #[.val (.int p0), .val (.int p1), .val (.int p2), .val (.int p3), .val (.int p4), .val (.ref b1), .val (.int (1 : Int32)), .val (.int (p0 &&& (3 : Int32))), .val (.int (0 : Int32)), .val (.ref b38), .val (.int (p4 &&& (1 : Int32))), .val (.int (1 : Int32)), .unset] [(.ref b1)])) (fun t kt => ?_) ?_
          · show Steps p.tables e below (T45.setTop (mkF m 116 #[.val (.int p0), .val (.int p1), .val (.int p2), .val (.int p3), .val (.int p4), .val (.ref b1), .val (.int (1 : Int32)), .val (.int (p0 &&& (3 : Int32))), .val (.int (0 : Int32)), .val (.ref b38), .val (.int (p4 &&& (1 : Int32))), .val (.int (1 : Int32)), .unset] [])) t
            refine XS.aload X45.here hx rfl (hb hby at_116) rfl rfl ?_
            exact kt
          refine OGo.callV X45 hx hZ (y := (⟨"com/example/oddhands/oddhands/simulator/Sample", "isEmpty", "()Z"⟩ : MethodName)) (z := (⟨"com/example/oddhands/oddhands/simulator/Sample", "isEmpty", "()Z"⟩ : MethodName)) hown (own_wd hw 9 rfl) (own_wd hw 10 rfl) (notFace_of_selects (args := #[]) (mvT hZ (own_wd hw 12 rfl))) (own_wd hw 12 rfl) (own_wd hw 11 rfl) (own_wd hw 2 rfl) (own_wd hw 13 rfl) (by decide) (rm3 l Z az hw [] b1 (f5 (f7 (f7 (f7 (0 : Int64)))) (0 : Int64)) T45.heap n0 (Nat.le_trans Z0 KC45.1) P45_1) (W := 0) (by decide) (by decide) P45_0 (g := (mkF m 118 #[.val (.int p0), .val (.int p1), .val (.int p2), .val (.int p3), .val (.int p4), .val (.ref b1), .val (.int (1 : Int32)), .val (.int (p0 &&& (3 : Int32))), .val (.int (0 : Int32)), .val (.ref b38), .val (.int (p4 &&& (1 : Int32))), .val (.int (1 : Int32)), .unset] [(.ref b1)])) rfl (by rw [hml]; rfl) (argsL := []) (rest := []) (lenOf pd_0_1 rfl) rfl (by show 2 * 0 + _ ≤ _; exact Nat.le_of_eq rfl) (hb hby at_118) rfl rfl (by decide) (by decide) ?_
          rintro _ T46 L46 X46 ⟨hv46, Nq46, e46⟩
          have N46 := Fr.app N45 Nq46
          rw [show (f3 (f5 (f7 (f7 (f7 (0 : Int64)))) (0 : Int64))) = (0 : Int32) from by decide] at hv46
          subst hv46
          show OGo _ _ _ _ _ _ _ (T46.setTop (mkF m 121 #[.val (.int p0), .val (.int p1), .val (.int p2), .val (.int p3), .val (.int p4), .val (.ref b1), .val (.int (1 : Int32)), .val (.int (p0 &&& (3 : Int32))), .val (.int (0 : Int32)), .val (.ref b38), .val (.int (p4 &&& (1 : Int32))), .val (.int (1 : Int32)), .unset] [(.int (0 : Int32))]))
          refine OGo.step (F' := T46.setTop (mkF m 183 #[.val (.int p0), .val (.int p1), .val (.int p2), .val (.int p3), .val (.int p4), .val (.ref b1), .val (.int (1 : Int32)), .val (.int (p0 &&& (3 : Int32))), .val (.int (0 : Int32)), .val (.ref b38), .val (.int (p4 &&& (1 : Int32))), .val (.int (1 : Int32)), .val (.int (0 : Int32))] [(.int (1 : Int32))])) (fun t kt => ?_) ?_
          · show Steps p.tables e below (T46.setTop (mkF m 121 #[.val (.int p0), .val (.int p1), .val (.int p2), .val (.int p3), .val (.int p4), .val (.ref b1), .val (.int (1 : Int32)), .val (.int (p0 &&& (3 : Int32))), .val (.int (0 : Int32)), .val (.ref b38), .val (.int (p4 &&& (1 : Int32))), .val (.int (1 : Int32)), .unset] [(.int (0 : Int32))])) t
            refine XS.istore X46.here hx rfl (hb hby at_121) rfl (l' := #[.val (.int p0), .val (.int p1), .val (.int p2), .val (.int p3), .val (.int p4), .val (.ref b1), .val (.int (1 : Int32)), .val (.int (p0 &&& (3 : Int32))), .val (.int (0 : Int32)), .val (.ref b38), .val (.int (p4 &&& (1 : Int32))), .val (.int (1 : Int32)), .val (.int (0 : Int32))]) rfl ?_
            show Steps p.tables e below (T46.setTop (mkF m 123 #[.val (.int p0), .val (.int p1), .val (.int p2), .val (.int p3), .val (.int p4), .val (.ref b1), .val (.int (1 : Int32)), .val (.int (p0 &&& (3 : Int32))), .val (.int (0 : Int32)), .val (.ref b38), .val (.int (p4 &&& (1 : Int32))), .val (.int (1 : Int32)), .val (.int (0 : Int32))] [])) t
            refine XS.iload X46.here hx rfl (hb hby at_123) rfl ?_
            show Steps p.tables e below (T46.setTop (mkF m 125 #[.val (.int p0), .val (.int p1), .val (.int p2), .val (.int p3), .val (.int p4), .val (.ref b1), .val (.int (1 : Int32)), .val (.int (p0 &&& (3 : Int32))), .val (.int (0 : Int32)), .val (.ref b38), .val (.int (p4 &&& (1 : Int32))), .val (.int (1 : Int32)), .val (.int (0 : Int32))] [(.int (1 : Int32))])) t
            refine XS.ifNo X46.here hx rfl (hb hby at_125) rfl ((if0 _ _).trans (feq (by decide : ¬ ((1 : Int32) = (0 : Int32)))).1) ?_
            show Steps p.tables e below (T46.setTop (mkF m 128 #[.val (.int p0), .val (.int p1), .val (.int p2), .val (.int p3), .val (.int p4), .val (.ref b1), .val (.int (1 : Int32)), .val (.int (p0 &&& (3 : Int32))), .val (.int (0 : Int32)), .val (.ref b38), .val (.int (p4 &&& (1 : Int32))), .val (.int (1 : Int32)), .val (.int (0 : Int32))] [])) t
            refine XS.iload X46.here hx rfl (hb hby at_128) rfl ?_
            show Steps p.tables e below (T46.setTop (mkF m 130 #[.val (.int p0), .val (.int p1), .val (.int p2), .val (.int p3), .val (.int p4), .val (.ref b1), .val (.int (1 : Int32)), .val (.int (p0 &&& (3 : Int32))), .val (.int (0 : Int32)), .val (.ref b38), .val (.int (p4 &&& (1 : Int32))), .val (.int (1 : Int32)), .val (.int (0 : Int32))] [(.int (0 : Int32))])) t
            refine XS.iload X46.here hx rfl (hb hby at_130) rfl ?_
            show Steps p.tables e below (T46.setTop (mkF m 132 #[.val (.int p0), .val (.int p1), .val (.int p2), .val (.int p3), .val (.int p4), .val (.ref b1), .val (.int (1 : Int32)), .val (.int (p0 &&& (3 : Int32))), .val (.int (0 : Int32)), .val (.ref b38), .val (.int (p4 &&& (1 : Int32))), .val (.int (1 : Int32)), .val (.int (0 : Int32))] [(.int (p0 &&& (3 : Int32))), (.int (0 : Int32))])) t
            refine XS.ifYes X46.here hx rfl (pc0 := 132) (pc' := 139) rfl (hb hby at_132) rfl ((if0 _ _).trans (feq (own_k1 hc24)).2) (by decide) (by decide) ?_
            show Steps p.tables e below (T46.setTop (mkF m 139 #[.val (.int p0), .val (.int p1), .val (.int p2), .val (.int p3), .val (.int p4), .val (.ref b1), .val (.int (1 : Int32)), .val (.int (p0 &&& (3 : Int32))), .val (.int (0 : Int32)), .val (.ref b38), .val (.int (p4 &&& (1 : Int32))), .val (.int (1 : Int32)), .val (.int (0 : Int32))] [(.int (0 : Int32))])) t
            refine XS.iconst X46.here hx rfl (hb hby at_139) ?_
            show Steps p.tables e below (T46.setTop (mkF m 140 #[.val (.int p0), .val (.int p1), .val (.int p2), .val (.int p3), .val (.int p4), .val (.ref b1), .val (.int (1 : Int32)), .val (.int (p0 &&& (3 : Int32))), .val (.int (0 : Int32)), .val (.ref b38), .val (.int (p4 &&& (1 : Int32))), .val (.int (1 : Int32)), .val (.int (0 : Int32))] [(.int (0 : Int32)), (.int (0 : Int32))])) t
            refine XS.icmpNo X46.here hx rfl (hb hby at_140) rfl (teq (by decide : (0 : Int32) = (0 : Int32))).2 ?_
            show Steps p.tables e below (T46.setTop (mkF m 143 #[.val (.int p0), .val (.int p1), .val (.int p2), .val (.int p3), .val (.int p4), .val (.ref b1), .val (.int (1 : Int32)), .val (.int (p0 &&& (3 : Int32))), .val (.int (0 : Int32)), .val (.ref b38), .val (.int (p4 &&& (1 : Int32))), .val (.int (1 : Int32)), .val (.int (0 : Int32))] [])) t
            refine XS.iload X46.here hx rfl (hb hby at_143) rfl ?_
            show Steps p.tables e below (T46.setTop (mkF m 145 #[.val (.int p0), .val (.int p1), .val (.int p2), .val (.int p3), .val (.int p4), .val (.ref b1), .val (.int (1 : Int32)), .val (.int (p0 &&& (3 : Int32))), .val (.int (0 : Int32)), .val (.ref b38), .val (.int (p4 &&& (1 : Int32))), .val (.int (1 : Int32)), .val (.int (0 : Int32))] [(.int (1 : Int32))])) t
            refine XS.iload X46.here hx rfl (hb hby at_145) rfl ?_
            show Steps p.tables e below (T46.setTop (mkF m 147 #[.val (.int p0), .val (.int p1), .val (.int p2), .val (.int p3), .val (.int p4), .val (.ref b1), .val (.int (1 : Int32)), .val (.int (p0 &&& (3 : Int32))), .val (.int (0 : Int32)), .val (.ref b38), .val (.int (p4 &&& (1 : Int32))), .val (.int (1 : Int32)), .val (.int (0 : Int32))] [(.int (p4 &&& (1 : Int32))), (.int (1 : Int32))])) t
            refine XS.ifNo X46.here hx rfl (hb hby at_147) rfl ((if0 _ _).trans (teq (own_j0 _ hc88)).2) ?_
            show Steps p.tables e below (T46.setTop (mkF m 150 #[.val (.int p0), .val (.int p1), .val (.int p2), .val (.int p3), .val (.int p4), .val (.ref b1), .val (.int (1 : Int32)), .val (.int (p0 &&& (3 : Int32))), .val (.int (0 : Int32)), .val (.ref b38), .val (.int (p4 &&& (1 : Int32))), .val (.int (1 : Int32)), .val (.int (0 : Int32))] [(.int (1 : Int32))])) t
            refine XS.iconst X46.here hx rfl (hb hby at_150) ?_
            show Steps p.tables e below (T46.setTop (mkF m 151 #[.val (.int p0), .val (.int p1), .val (.int p2), .val (.int p3), .val (.int p4), .val (.ref b1), .val (.int (1 : Int32)), .val (.int (p0 &&& (3 : Int32))), .val (.int (0 : Int32)), .val (.ref b38), .val (.int (p4 &&& (1 : Int32))), .val (.int (1 : Int32)), .val (.int (0 : Int32))] [(.int (1 : Int32)), (.int (1 : Int32))])) t
            refine XS.goto X46.here hx rfl (pc0 := 151) (pc' := 155) rfl (hb hby at_151) (by decide) (by decide) ?_
            show Steps p.tables e below (T46.setTop (mkF m 155 #[.val (.int p0), .val (.int p1), .val (.int p2), .val (.int p3), .val (.int p4), .val (.ref b1), .val (.int (1 : Int32)), .val (.int (p0 &&& (3 : Int32))), .val (.int (0 : Int32)), .val (.ref b38), .val (.int (p4 &&& (1 : Int32))), .val (.int (1 : Int32)), .val (.int (0 : Int32))] [(.int (1 : Int32)), (.int (1 : Int32))])) t
            refine XS.icmpNo X46.here hx rfl (hb hby at_155) rfl (teq (by decide : (1 : Int32) = (1 : Int32))).2 ?_
            show Steps p.tables e below (T46.setTop (mkF m 158 #[.val (.int p0), .val (.int p1), .val (.int p2), .val (.int p3), .val (.int p4), .val (.ref b1), .val (.int (1 : Int32)), .val (.int (p0 &&& (3 : Int32))), .val (.int (0 : Int32)), .val (.ref b38), .val (.int (p4 &&& (1 : Int32))), .val (.int (1 : Int32)), .val (.int (0 : Int32))] [])) t
            refine XS.iload X46.here hx rfl (hb hby at_158) rfl ?_
            show Steps p.tables e below (T46.setTop (mkF m 160 #[.val (.int p0), .val (.int p1), .val (.int p2), .val (.int p3), .val (.int p4), .val (.ref b1), .val (.int (1 : Int32)), .val (.int (p0 &&& (3 : Int32))), .val (.int (0 : Int32)), .val (.ref b38), .val (.int (p4 &&& (1 : Int32))), .val (.int (1 : Int32)), .val (.int (0 : Int32))] [(.int (0 : Int32))])) t
            refine XS.iload X46.here hx rfl (hb hby at_160) rfl ?_
            show Steps p.tables e below (T46.setTop (mkF m 162 #[.val (.int p0), .val (.int p1), .val (.int p2), .val (.int p3), .val (.int p4), .val (.ref b1), .val (.int (1 : Int32)), .val (.int (p0 &&& (3 : Int32))), .val (.int (0 : Int32)), .val (.ref b38), .val (.int (p4 &&& (1 : Int32))), .val (.int (1 : Int32)), .val (.int (0 : Int32))] [(.int (p0 &&& (3 : Int32))), (.int (0 : Int32))])) t
            refine XS.ifYes X46.here hx rfl (pc0 := 162) (pc' := 174) rfl (hb hby at_162) rfl ((if0 _ _).trans (feq (own_k1 hc24)).2) (by decide) (by decide) ?_
            show Steps p.tables e below (T46.setTop (mkF m 174 #[.val (.int p0), .val (.int p1), .val (.int p2), .val (.int p3), .val (.int p4), .val (.ref b1), .val (.int (1 : Int32)), .val (.int (p0 &&& (3 : Int32))), .val (.int (0 : Int32)), .val (.ref b38), .val (.int (p4 &&& (1 : Int32))), .val (.int (1 : Int32)), .val (.int (0 : Int32))] [(.int (0 : Int32))])) t
            refine XS.iconst X46.here hx rfl (hb hby at_174) ?_
            show Steps p.tables e below (T46.setTop (mkF m 175 #[.val (.int p0), .val (.int p1), .val (.int p2), .val (.int p3), .val (.int p4), .val (.ref b1), .val (.int (1 : Int32)), .val (.int (p0 &&& (3 : Int32))), .val (.int (0 : Int32)), .val (.ref b38), .val (.int (p4 &&& (1 : Int32))), .val (.int (1 : Int32)), .val (.int (0 : Int32))] [(.int (0 : Int32)), (.int (0 : Int32))])) t
            refine XS.icmpNo X46.here hx rfl (hb hby at_175) rfl (teq (by decide : (0 : Int32) = (0 : Int32))).2 ?_
            show Steps p.tables e below (T46.setTop (mkF m 178 #[.val (.int p0), .val (.int p1), .val (.int p2), .val (.int p3), .val (.int p4), .val (.ref b1), .val (.int (1 : Int32)), .val (.int (p0 &&& (3 : Int32))), .val (.int (0 : Int32)), .val (.ref b38), .val (.int (p4 &&& (1 : Int32))), .val (.int (1 : Int32)), .val (.int (0 : Int32))] [])) t
            refine XS.iconst X46.here hx rfl (hb hby at_178) ?_
            show Steps p.tables e below (T46.setTop (mkF m 179 #[.val (.int p0), .val (.int p1), .val (.int p2), .val (.int p3), .val (.int p4), .val (.ref b1), .val (.int (1 : Int32)), .val (.int (p0 &&& (3 : Int32))), .val (.int (0 : Int32)), .val (.ref b38), .val (.int (p4 &&& (1 : Int32))), .val (.int (1 : Int32)), .val (.int (0 : Int32))] [(.int (1 : Int32))])) t
            refine XS.goto X46.here hx rfl (pc0 := 179) (pc' := 183) rfl (hb hby at_179) (by decide) (by decide) ?_
            exact kt
          refine OGo.retZ X46 hx hlk (t := .boolean) (z' := (1 : Int32)) hret (by simp) (hb hby at_183) rfl ?_ (by decide) (by decide)
          show Q0 Z p0 p1 p2 p3 p4 h0 n0 _ T46.heap _
          rw [e46]
          exact ⟨(by rw [f0, if_neg hc24, if_neg hc38, if_neg hc52, if_neg hc88]), N46, KC45⟩
theorem own_law (p0 p1 p2 p3 p4 : Int32) : f0 p0 p4 = 1 := by
  unfold f0
  repeat' split
  all_goals rfl
set_option maxRecDepth 65536 in
set_option maxHeartbeats 40000000 in
theorem comes_1 {Post : Tables → Env → Array Value → State → Outcome → State → Prop} (hpost : ∀ tb e args s v u, (limb_1_1.after args s (.returned v) u = true ∧ limb_1_2.after args s (.returned v) u = true ∧ True) → FrameEnd s (.returned v) u (Jvm.fieldLocs frame_1_writes args s ++ Jvm.arrayLocs frame_1_arrays args s ++ Jvm.staticLocs frame_1_statics s) 16 128 → Post tb e args s (.returned v) u) :
    ArmFor flags0 classFile x code maxLocals ret World_1 tables_1 room_1 Calls_1 rest_1 Pre_1 Post := by
  intro l hfl _ _ p e ha hc hk s m args below hf hA hF happ hP
  obtain ⟨hcalls, hrest, hpre⟩ := hP
  obtain ⟨-, -, -, hnamed, -, -, -, hat⟩ := (Spec.applies_iff hf).mp happ
  obtain ⟨hg, hn⟩ := and_e (Cond.before_iff.mp (show (Jvm.Cond.and given_1 narrow_1).before args s = true from hpre))
  obtain ⟨gc, gr0⟩ := and_e hg
  obtain ⟨ga0, gr1⟩ := and_e gr0
  obtain ⟨ga1, gr2⟩ := and_e gr1
  obtain ⟨ga2, gr3⟩ := and_e gr2
  obtain ⟨ga3, gr4⟩ := and_e gr3
  have ga4 := gr4
  obtain ⟨w0, w1, w2, w3, w4, rfl⟩ : ∃ w0 w1 w2 w3 w4 : Value, args = #[w0, w1, w2, w3, w4] := by
    have hs : args.size = 5 := by simpa [Cond.value, given_1] using gc
    obtain ⟨L⟩ := args
    match L, hs with
    | [w0, w1, w2, w3, w4], _ => exact ⟨w0, w1, w2, w3, w4, rfl⟩
  have hw := fun d (hd : d ∈ tables_1) => atoms_spec (ws := Jvm.Cond.code x code maxLocals ret :: tables_1) hat d (List.mem_cons_of_mem _ hd)
  have hfit : Fit s := fun {y c} hc i hi => by
    obtain ⟨ha, rfl⟩ := Array.getElem?_eq_some_iff.mp hc
    have q := List.all_eq_true.mp ((Array.all_eq_true_iff_forall_mem.mp hF) _ (Array.getElem_mem ha)) i (List.mem_range.mpr hi)
    simpa [Array.getElem?_eq_getElem hi] using q
  obtain ⟨i0, ei0⟩ := is_v ga0
  obtain rfl : w0 = (.int i0) := Option.some.inj ei0
  obtain ⟨i1, ei1⟩ := is_v ga1
  obtain rfl : w1 = (.int i1) := Option.some.inj ei1
  obtain ⟨i2, ei2⟩ := is_v ga2
  obtain rfl : w2 = (.int i2) := Option.some.inj ei2
  obtain ⟨i3, ei3⟩ := is_v ga3
  obtain rfl : w3 = (.int i3) := Option.some.inj ei3
  obtain ⟨i4, ei4⟩ := is_v ga4
  obtain rfl : w4 = (.int i4) := Option.some.inj ei4
  obtain ⟨n, o, h1, h2, h3, _, L, rfl, ⟨hv, N, -⟩, hq⟩ := rm0 l s _ hw tables_1 i0 i1 i2 i3 i4 s.heap s.heap.size (Nat.le_refl _) p e ha hc hk s m _ below hf ((Spec.applies_iff_loose hf).mp happ).1 ⟨rfl, State.Warmed39.refl s, rfl⟩ trivial
  rw [own_law _ i1 i2 i3 _] at hv
  subst hv
  refine ⟨n, _, h1, h2, h3, hpost _ _ _ _ _ _ ⟨Cond.after_iff.mpr rfl, Cond.after_iff.mpr (eq_i res_at (Term.int_eval (1)) rfl), trivial⟩ ⟨hq.1, hq.2.1, (hq.2.2.sift fun y hy => Or.inr (N y hy)).mono (by decide) (by decide)⟩⟩
theorem main_1_1 : Claimed_1_1 := comes_1 fun _ _ _ _ _ _ h hF => ⟨h.1, hF⟩
theorem main_1_2 : Claimed_1_2 := comes_1 fun _ _ _ _ _ _ h hF => ⟨h.2.1, hF⟩
end Jvm.Pilot.@@N@@
namespace Jvm.Pilot.@@N@@
open Jvm Jvm.ClassFile Sem Op Lib Jvm.Free Jvm.Stand Jvm.Pilot.@@N@@.Jvm.D
/-! MADE BY PROGRAM (witnessworld.py) out of the Statement's table words and the real class files: 10 classes; the members and pool entries that the words name. The judged class is class 1, her method 1. -/
namespace start1
open Jvm.ClassFile
def u (s : String) : CpInfo := .utf8 (stringToUtf16 s)
/-- a pool by its gaps: so many unusable entries, then the entry; so many at the end -/
def gap : Nat → List CpInfo → List CpInfo
  | 0, r => r
  | n + 1, r => .unusable :: gap n r
def poolList (es : List (Nat × CpInfo)) (last : Nat) : List CpInfo := es.foldr (fun e r => gap e.1 (e.2 :: r)) (gap last [])
def pool (es : List (Nat × CpInfo)) (last : Nat) : Array CpInfo := ⟨poolList es last⟩
def fileOf (pool : Array CpInfo) (this : Nat) (attrs : Array Attribute := #[]) (ms : Array MethodInfo := #[]) (fl : Nat := 33) (sup : Nat := 0) (ifs : Array Nat := #[]) (fds : Array FieldInfo := #[]) : ClassFile where
  minorVersion := 0
  majorVersion := 65
  constantPool := pool
  accessFlags := fl
  thisClass := this
  superClass := sup
  interfaces := ifs
  fields := fds
  methods := ms
  attributes := attrs
def plain (name : String) (sup : Option ClassId) : Class where
  name := name
  kind := .ordinary
  loader := none
  accessFlags := 33
  super := sup
  interfaces := #[]
  cf := none
  fields := #[]
  methods := #[]
  instanceTypes := #[]
  staticTypes := #[]
  resolved := #[]
  callSites := []
  init := .initialized
  statics := none
  mirror := none

def pool0 : Array CpInfo := pool [(5, u "<init>"), (0, u "()V"), (1, .class_ 10), (1, u "java/lang/Object")] 113

def k0c0 : Code := { maxStack := 0, maxLocals := 1, code := object_method_1_code, exceptionTable := #[], attributes := #[] }
def k0m0 : Method := { name := "<init>", desc := "()V", sig := { parameters := [], returnType := none }, accessFlags := 1, code := some k0c0 }
/-- java/lang/Object -/
def k0 : Class := { plain "java/lang/Object" none with
  accessFlags := 33
  interfaces := #[]
  cf := some (fileOf pool0 8 #[] #[{ accessFlags := 1, nameIndex := 5, descriptorIndex := 6, attributes := #[] }] 33 0 #[] #[])
  fields := #[]
  methods := #[k0m0]
  instanceTypes := #[]
  staticTypes := #[]
  resolved := Array.replicate 124 none
  statics := none }

def pool1 : Array CpInfo := pool [(2, .class_ 4), (0, .nameAndType 5 6), (0, u "java/lang/Object"), (0, u "<init>"), (0, u "()V"), (0, .class_ 8), (0, u "com/example/oddhands/oddhands/simulator/Sample"), (0, .methodref 7 3), (0, .methodref 7 11), (0, .nameAndType 12 13), (0, u "isEmpty"), (0, u "()Z"), (0, .methodref 7 15), (0, .nameAndType 16 17), (0, u "add"), (0, u "(J)V"), (0, .methodref 7 19), (0, .nameAndType 16 20), (0, u "(Lcom/example/oddhands/oddhands/simulator/Sample;)V"), (0, .class_ 22), (0, u "com/example/oddhands/oddhands/simulator/SampleIsEmptyPinLaw"), (2, u "law"), (0, u "(IIIII)Z")] 3

def k1m0 : Method := { name := "<init>", desc := "()V", sig := { parameters := [], returnType := none }, accessFlags := 1, code := none }
def k1c1 : Code := { maxStack := 3, maxLocals := 13, code := code, exceptionTable := #[], attributes := #[] }
def k1m1 : Method := { name := "law", desc := "(IIIII)Z", sig := { parameters := [.int, .int, .int, .int, .int], returnType := some .boolean }, accessFlags := 9, code := some k1c1 }
/-- com/example/oddhands/oddhands/simulator/SampleIsEmptyPinLaw -/
def k1 : Class := { plain "com/example/oddhands/oddhands/simulator/SampleIsEmptyPinLaw" (some 0) with
  accessFlags := 49
  interfaces := #[]
  cf := some (fileOf pool1 21 #[] #[{ accessFlags := 1, nameIndex := 5, descriptorIndex := 6, attributes := #[] }, { accessFlags := 9, nameIndex := 25, descriptorIndex := 26, attributes := #[] }] 49 2 #[] #[])
  fields := #[]
  methods := #[k1m0, k1m1]
  instanceTypes := #[]
  staticTypes := #[]
  resolved := Array.replicate 30 none
  statics := none }

def pool2 : Array CpInfo := pool [(1, .methodref 2 3), (0, .class_ 4), (0, .nameAndType 5 6), (0, u "java/lang/Object"), (0, u "<init>"), (0, u "()V"), (0, .fieldref 8 9), (0, .class_ 10), (0, .nameAndType 11 12), (0, u "com/example/oddhands/oddhands/simulator/Sample"), (0, u "size"), (0, u "J"), (0, .methodref 14 15), (0, .class_ 16), (0, .nameAndType 17 18), (0, u "java/lang/Math"), (0, u "incrementExact"), (0, u "(J)J"), (0, .fieldref 8 20), (0, .nameAndType 21 12), (0, u "sum"), (0, .methodref 14 23), (0, .nameAndType 24 25), (0, u "addExact"), (0, u "(JJ)J"), (0, .fieldref 8 27), (0, .nameAndType 28 12), (0, u "sumOfSquares"), (0, .methodref 14 30), (0, .nameAndType 31 25), (0, u "multiplyExact"), (22, u "Ljava/math/BigDecimal;"), (29, u "WORKING"), (0, u "Ljava/math/MathContext;"), (9, u "Z_95"), (26, u "isEmpty"), (0, u "()Z"), (17, u "add"), (0, u "(J)V"), (0, u "(Lcom/example/oddhands/oddhands/simulator/Sample;)V")] 24

def k2c0 : Code := { maxStack := 1, maxLocals := 1, code := prog_8_method_1_code, exceptionTable := #[], attributes := #[] }
def k2m0 : Method := { name := "<init>", desc := "()V", sig := { parameters := [], returnType := none }, accessFlags := 1, code := some k2c0 }
def k2c1 : Code := { maxStack := 7, maxLocals := 3, code := prog_8_method_2_code, exceptionTable := #[], attributes := #[] }
def k2m1 : Method := { name := "add", desc := "(J)V", sig := { parameters := [.long], returnType := none }, accessFlags := 1, code := some k2c1 }
def k2c2 : Code := { maxStack := 5, maxLocals := 2, code := prog_8_method_3_code, exceptionTable := #[], attributes := #[] }
def k2m2 : Method := { name := "add", desc := "(Lcom/example/oddhands/oddhands/simulator/Sample;)V", sig := { parameters := [(.object "com/example/oddhands/oddhands/simulator/Sample")], returnType := none }, accessFlags := 1, code := some k2c2 }
def k2c3 : Code := { maxStack := 4, maxLocals := 1, code := prog_8_method_4_code, exceptionTable := #[], attributes := #[] }
def k2m3 : Method := { name := "isEmpty", desc := "()Z", sig := { parameters := [], returnType := some .boolean }, accessFlags := 0, code := some k2c3 }
/-- com/example/oddhands/oddhands/simulator/Sample -/
def k2 : Class := { plain "com/example/oddhands/oddhands/simulator/Sample" (some 0) with
  accessFlags := 49
  interfaces := #[]
  cf := some (fileOf pool2 8 #[] #[{ accessFlags := 1, nameIndex := 5, descriptorIndex := 6, attributes := #[] }, { accessFlags := 1, nameIndex := 141, descriptorIndex := 142, attributes := #[] }, { accessFlags := 1, nameIndex := 141, descriptorIndex := 143, attributes := #[] }, { accessFlags := 0, nameIndex := 122, descriptorIndex := 123, attributes := #[] }] 49 2 #[] #[{ accessFlags := 26, nameIndex := 95, descriptorIndex := 54, attributes := #[] }, { accessFlags := 26, nameIndex := 84, descriptorIndex := 85, attributes := #[] }, { accessFlags := 2, nameIndex := 11, descriptorIndex := 12, attributes := #[] }, { accessFlags := 2, nameIndex := 21, descriptorIndex := 12, attributes := #[] }, { accessFlags := 2, nameIndex := 28, descriptorIndex := 12, attributes := #[] }])
  fields := #[{ name := "Z_95", type := (.object "java/math/BigDecimal"), accessFlags := 26, slot := 0, constantValue := 0 }, { name := "WORKING", type := (.object "java/math/MathContext"), accessFlags := 26, slot := 1, constantValue := 0 }, { name := "size", type := .long, accessFlags := 2, slot := 0, constantValue := 0 }, { name := "sum", type := .long, accessFlags := 2, slot := 1, constantValue := 0 }, { name := "sumOfSquares", type := .long, accessFlags := 2, slot := 2, constantValue := 0 }]
  methods := #[k2m0, k2m1, k2m2, k2m3]
  instanceTypes := #[.long, .long, .long]
  staticTypes := #[(.object "java/math/BigDecimal"), (.object "java/math/MathContext")]
  resolved := Array.replicate 168 none
  statics := none }

def pool3 : Array CpInfo := pool [(1, .class_ 2), (0, u "java/lang/Math"), (1, .class_ 6), (1, u "java/lang/Object"), (0, u "<init>"), (0, u "()V"), (89, .class_ 100), (1, u "java/lang/Math$RandomNumberGeneratorHolder"), (19, u "multiplyExact"), (0, u "(JJ)J"), (0, .methodref 1 123), (0, .nameAndType 124 125), (0, u "abs"), (0, u "(J)J"), (9, .long 9223372036854775807), (36, u "negativeZeroFloatBits"), (0, u "J"), (2, u "negativeZeroDoubleBits"), (68, u "$assertionsDisabled"), (0, u "Z"), (91, u "twoToTheDoubleScaleDown"), (0, u "D"), (4, u "twoToTheDoubleScaleUp"), (9, u "E"), (3, u "PI"), (2, u "TAU"), (2, u "DEGREES_TO_RADIANS"), (0, u "RADIANS_TO_DEGREES"), (27, u "addExact"), (8, u "incrementExact")] 57

def k3m0 : Method := { name := "<init>", desc := "()V", sig := { parameters := [], returnType := none }, accessFlags := 2, code := none }
def k3c1 : Code := { maxStack := 6, maxLocals := 6, code := jdk_29_method_25_code, exceptionTable := #[], attributes := #[] }
def k3m1 : Method := { name := "addExact", desc := "(JJ)J", sig := { parameters := [.long, .long], returnType := some .long }, accessFlags := 9, code := some k3c1 }
def k3c2 : Code := { maxStack := 4, maxLocals := 10, code := jdk_29_method_30_code, exceptionTable := #[], attributes := #[] }
def k3m2 : Method := { name := "multiplyExact", desc := "(JJ)J", sig := { parameters := [.long, .long], returnType := some .long }, accessFlags := 9, code := some k3c2 }
def k3c3 : Code := { maxStack := 4, maxLocals := 2, code := jdk_29_method_38_code, exceptionTable := #[], attributes := #[] }
def k3m3 : Method := { name := "incrementExact", desc := "(J)J", sig := { parameters := [.long], returnType := some .long }, accessFlags := 9, code := some k3c3 }
def k3c4 : Code := { maxStack := 4, maxLocals := 2, code := jdk_29_method_61_code, exceptionTable := #[], attributes := #[] }
def k3m4 : Method := { name := "abs", desc := "(J)J", sig := { parameters := [.long], returnType := some .long }, accessFlags := 9, code := some k3c4 }
/-- java/lang/Math -/
def k3 : Class := { plain "java/lang/Math" (some 0) with
  accessFlags := 49
  interfaces := #[]
  cf := some (fileOf pool3 1 #[.nestMembers #[98]] #[{ accessFlags := 2, nameIndex := 7, descriptorIndex := 8, attributes := #[] }, { accessFlags := 9, nameIndex := 393, descriptorIndex := 121, attributes := #[] }, { accessFlags := 9, nameIndex := 120, descriptorIndex := 121, attributes := #[] }, { accessFlags := 9, nameIndex := 402, descriptorIndex := 125, attributes := #[] }, { accessFlags := 9, nameIndex := 124, descriptorIndex := 125, attributes := #[] }] 49 4 #[] #[{ accessFlags := 25, nameIndex := 354, descriptorIndex := 339, attributes := #[] }, { accessFlags := 25, nameIndex := 358, descriptorIndex := 339, attributes := #[] }, { accessFlags := 25, nameIndex := 361, descriptorIndex := 339, attributes := #[] }, { accessFlags := 26, nameIndex := 364, descriptorIndex := 339, attributes := #[] }, { accessFlags := 26, nameIndex := 365, descriptorIndex := 339, attributes := #[] }, { accessFlags := 26, nameIndex := 172, descriptorIndex := 173, attributes := #[] }, { accessFlags := 26, nameIndex := 176, descriptorIndex := 173, attributes := #[] }, { accessFlags := 8, nameIndex := 344, descriptorIndex := 339, attributes := #[] }, { accessFlags := 8, nameIndex := 338, descriptorIndex := 339, attributes := #[] }, { accessFlags := 4120, nameIndex := 245, descriptorIndex := 246, attributes := #[] }])
  fields := #[{ name := "E", type := .double, accessFlags := 25, slot := 0, constantValue := 0 }, { name := "PI", type := .double, accessFlags := 25, slot := 1, constantValue := 0 }, { name := "TAU", type := .double, accessFlags := 25, slot := 2, constantValue := 0 }, { name := "DEGREES_TO_RADIANS", type := .double, accessFlags := 26, slot := 3, constantValue := 0 }, { name := "RADIANS_TO_DEGREES", type := .double, accessFlags := 26, slot := 4, constantValue := 0 }, { name := "negativeZeroFloatBits", type := .long, accessFlags := 26, slot := 5, constantValue := 0 }, { name := "negativeZeroDoubleBits", type := .long, accessFlags := 26, slot := 6, constantValue := 0 }, { name := "twoToTheDoubleScaleUp", type := .double, accessFlags := 8, slot := 7, constantValue := 0 }, { name := "twoToTheDoubleScaleDown", type := .double, accessFlags := 8, slot := 8, constantValue := 0 }, { name := "$assertionsDisabled", type := .boolean, accessFlags := 4120, slot := 9, constantValue := 0 }]
  methods := #[k3m0, k3m1, k3m2, k3m3, k3m4]
  instanceTypes := #[]
  staticTypes := #[.double, .double, .double, .double, .double, .long, .long, .double, .double, .boolean]
  resolved := Array.replicate 460 none
  statics := none }

def pool4 : Array CpInfo := pool [(1, u "java/lang/Cloneable"), (0, .class_ 1), (0, u "java/lang/Object"), (0, .class_ 3)] 3

/-- java/lang/Cloneable -/
def k4 : Class := { plain "java/lang/Cloneable" (some 0) with
  accessFlags := 1537
  interfaces := #[]
  cf := some (fileOf pool4 2 #[] #[] 1537 4 #[] #[])
  fields := #[]
  methods := #[]
  instanceTypes := #[]
  staticTypes := #[]
  resolved := Array.replicate 8 none
  statics := none }

def pool5 : Array CpInfo := pool [(1, u "java/io/Serializable"), (0, .class_ 1), (0, u "java/lang/Object"), (0, .class_ 3)] 3

/-- java/io/Serializable -/
def k5 : Class := { plain "java/io/Serializable" (some 0) with
  accessFlags := 1537
  interfaces := #[]
  cf := some (fileOf pool5 2 #[] #[] 1537 4 #[] #[])
  fields := #[]
  methods := #[]
  instanceTypes := #[]
  staticTypes := #[]
  resolved := Array.replicate 8 none
  statics := none }

/-- the primitive byte -/
def k6 : Class := { plain "byte" none with kind := .primitive 'B', accessFlags := 0x411 }
/-- [B -/
def k7 : Class := { plain "[B" (some 0) with kind := .array 6 .byte, interfaces := #[4, 5], accessFlags := 1041 }

/-- the primitive int -/
def k8 : Class := { plain "int" none with kind := .primitive 'I', accessFlags := 0x411 }
/-- [I -/
def k9 : Class := { plain "[I" (some 0) with kind := .array 8 .int, interfaces := #[4, 5], accessFlags := 1041 }

def heap : Heap := #[]
def classes : Array Class := #[k0, k1, k2, k3, k4, k5, k6, k7, k8, k9]
def interned : List (Array UInt16 × Addr) := []
def slotsUsed : Nat := 0
def theMethod : MethodId := ⟨1, 1⟩
def args0 : Array Value := #[.int 5, .int 7, .int 1, .int 2, .int 3]
def aboutOver (below : List Frame) : State where
  vm := { classes := classes, interned := interned.toArray }
  heap := heap
  slotsUsed := slotsUsed
  threads := #[{ frames := .invoking theMethod args0 :: below }]
def below0 : List Frame := [.native { method := ⟨0, 0⟩, args := #[] }]
def about1 : State := aboutOver below0
def p0 : Program := .bare "" "" ""
def e0 : Env := launch0.env 0 0 0
theorem w_frames : about1.frames = Frame.invoking theMethod args0 :: below0 := rfl
set_option maxRecDepth 65536 in
theorem w_args : argsFit about1.vm theMethod args0 = true := by decide +kernel
set_option maxRecDepth 65536 in
theorem w_heap : heapFits about1 = true := by decide +kernel
set_option maxRecDepth 65536 in
theorem w_runnable : about1.curStatus? = some .runnable := by decide +kernel
set_option maxRecDepth 65536 in
theorem w_alone : about1.alone = true := by decide +kernel
set_option maxRecDepth 65536 in
theorem w_named : about1.methodNamed? x = some theMethod := by decide +kernel
set_option maxRecDepth 65536 in
theorem w_hears : about1.hears theMethod below0 = true := by decide +kernel
set_option maxRecDepth 65536 in
theorem w_ripe : about1.ripe theMethod args0 below0 = true := by decide +kernel
theorem w_running : about1.status = .running := rfl
set_option maxRecDepth 65536 in
theorem w_room : about1.hasRoom e0.platform room_1 = true :=
  launch0.hasRoom_least _ room_1 (by decide +kernel) (by decide +kernel) (by decide +kernel) (by decide +kernel) (by decide +kernel) (by decide +kernel)
theorem allAtoms_all (ts : List Jvm.Cond) (a : Array Jvm.Value) (st : Jvm.State) : (allAtoms ts).before a st = ts.all (fun c => c.before a st) := by
  induction ts with
  | nil => rfl
  | cons c t ih =>
    show (Jvm.Cond.and c (allAtoms t)).before a st = _
    rw [Jvm.Cond.before_and, ih, List.all_cons]
def words1 : List Jvm.Cond := Jvm.Cond.code x code maxLocals ret :: tables_1
/-- a 'code' word, met by the world's own term for the bytes: nothing is compared byte by byte -/
theorem code_word {y : MethodName} {bytes : ByteArray} {mx : Nat} {rt : Option FieldType} {a : Array Value} {s : State} {m : MethodId} {meth : Method} {c : Code} (h1 : s.methodNamed? y = some m) (h2 : s.vm.method? m = some meth) (h3 : meth.code = some c) (h4 : c.code = bytes)
    (h5 : (c.maxLocals == mx && c.exceptionTable.isEmpty && decide (c.maxStack ≤ mostOperands) && decide (meth.sig.returnType = rt) && !meth.locks && decide (parseMethodDescriptor y.desc = some meth.sig)) = true) : (Jvm.Cond.code y bytes mx rt).before a s = true := by
  simp only [Bool.and_eq_true, beq_iff_eq, Bool.not_eq_true', decide_eq_true_eq] at h5
  obtain ⟨⟨⟨⟨⟨g1, g2⟩, g3⟩, g4⟩, g5⟩, g6⟩ := h5
  simp [Cond.before, Cond.holds, Cond.value, h1, h2, h3, h4, g1, g2, g3, g4, g5, g6]
def isCode : Jvm.Cond → Bool
  | .code _ _ _ _ => true
  | _ => false
theorem all_split {L : List Jvm.Cond} {P : Jvm.Cond → Bool} (h1 : L.all (fun c => isCode c || P c) = true) (h2 : ∀ c ∈ L.filter isCode, P c = true) : L.all P = true := by
  refine List.all_eq_true.mpr fun c hc => ?_
  have h := List.all_eq_true.mp h1 c hc
  rcases Bool.eq_false_or_eq_true (isCode c) with hi | hi
  · exact h2 c (List.mem_filter.mpr ⟨hc, hi⟩)
  · simpa [hi] using h
set_option maxRecDepth 65536 in
theorem w_c0 : (Jvm.Cond.code x code maxLocals ret).before args0 about1 = true := code_word (m := ⟨1, 1⟩) (meth := k1m1) (c := k1c1) (by decide +kernel) rfl rfl rfl (by decide +kernel)
set_option maxRecDepth 65536 in
theorem w_c1 : (Jvm.Cond.code ({ cls := "com/example/oddhands/oddhands/simulator/Sample", name := "<init>", desc := "()V" } : Jvm.MethodName) prog_8_method_1_code (1 : Nat) (Option.none : Option Jvm.ClassFile.FieldType)).before args0 about1 = true := code_word (m := ⟨2, 0⟩) (meth := k2m0) (c := k2c0) (by decide +kernel) rfl rfl rfl (by decide +kernel)
set_option maxRecDepth 65536 in
theorem w_c2 : (Jvm.Cond.code ({ cls := "java/lang/Object", name := "<init>", desc := "()V" } : Jvm.MethodName) object_method_1_code (1 : Nat) (Option.none : Option Jvm.ClassFile.FieldType)).before args0 about1 = true := code_word (m := ⟨0, 0⟩) (meth := k0m0) (c := k0c0) (by decide +kernel) rfl rfl rfl (by decide +kernel)
set_option maxRecDepth 65536 in
theorem w_c3 : (Jvm.Cond.code ({ cls := "com/example/oddhands/oddhands/simulator/Sample", name := "isEmpty", desc := "()Z" } : Jvm.MethodName) prog_8_method_4_code (1 : Nat) (Option.some Jvm.ClassFile.FieldType.boolean)).before args0 about1 = true := code_word (m := ⟨2, 3⟩) (meth := k2m3) (c := k2c3) (by decide +kernel) rfl rfl rfl (by decide +kernel)
set_option maxRecDepth 65536 in
theorem w_c4 : (Jvm.Cond.code ({ cls := "com/example/oddhands/oddhands/simulator/Sample", name := "add", desc := "(Lcom/example/oddhands/oddhands/simulator/Sample;)V" } : Jvm.MethodName) prog_8_method_3_code (2 : Nat) (Option.none : Option Jvm.ClassFile.FieldType)).before args0 about1 = true := code_word (m := ⟨2, 2⟩) (meth := k2m2) (c := k2c2) (by decide +kernel) rfl rfl rfl (by decide +kernel)
set_option maxRecDepth 65536 in
theorem w_c5 : (Jvm.Cond.code ({ cls := "java/lang/Math", name := "addExact", desc := "(JJ)J" } : Jvm.MethodName) jdk_29_method_25_code (6 : Nat) (Option.some Jvm.ClassFile.FieldType.long)).before args0 about1 = true := code_word (m := ⟨3, 1⟩) (meth := k3m1) (c := k3c1) (by decide +kernel) rfl rfl rfl (by decide +kernel)
set_option maxRecDepth 65536 in
theorem w_c6 : (Jvm.Cond.code ({ cls := "com/example/oddhands/oddhands/simulator/Sample", name := "add", desc := "(J)V" } : Jvm.MethodName) prog_8_method_2_code (3 : Nat) (Option.none : Option Jvm.ClassFile.FieldType)).before args0 about1 = true := code_word (m := ⟨2, 1⟩) (meth := k2m1) (c := k2c1) (by decide +kernel) rfl rfl rfl (by decide +kernel)
set_option maxRecDepth 65536 in
theorem w_c7 : (Jvm.Cond.code ({ cls := "java/lang/Math", name := "incrementExact", desc := "(J)J" } : Jvm.MethodName) jdk_29_method_38_code (2 : Nat) (Option.some Jvm.ClassFile.FieldType.long)).before args0 about1 = true := code_word (m := ⟨3, 3⟩) (meth := k3m3) (c := k3c3) (by decide +kernel) rfl rfl rfl (by decide +kernel)
set_option maxRecDepth 65536 in
theorem w_c8 : (Jvm.Cond.code ({ cls := "java/lang/Math", name := "multiplyExact", desc := "(JJ)J" } : Jvm.MethodName) jdk_29_method_30_code (10 : Nat) (Option.some Jvm.ClassFile.FieldType.long)).before args0 about1 = true := code_word (m := ⟨3, 2⟩) (meth := k3m2) (c := k3c2) (by decide +kernel) rfl rfl rfl (by decide +kernel)
set_option maxRecDepth 65536 in
theorem w_c9 : (Jvm.Cond.code ({ cls := "java/lang/Math", name := "abs", desc := "(J)J" } : Jvm.MethodName) jdk_29_method_61_code (2 : Nat) (Option.some Jvm.ClassFile.FieldType.long)).before args0 about1 = true := code_word (m := ⟨3, 4⟩) (meth := k3m4) (c := k3c4) (by decide +kernel) rfl rfl rfl (by decide +kernel)
def codes1 : List Jvm.Cond := [Jvm.Cond.code x code maxLocals ret, Jvm.Cond.code ({ cls := "com/example/oddhands/oddhands/simulator/Sample", name := "<init>", desc := "()V" } : Jvm.MethodName) prog_8_method_1_code (1 : Nat) (Option.none : Option Jvm.ClassFile.FieldType), Jvm.Cond.code ({ cls := "java/lang/Object", name := "<init>", desc := "()V" } : Jvm.MethodName) object_method_1_code (1 : Nat) (Option.none : Option Jvm.ClassFile.FieldType), Jvm.Cond.code ({ cls := "com/example/oddhands/oddhands/simulator/Sample", name := "isEmpty", desc := "()Z" } : Jvm.MethodName) prog_8_method_4_code (1 : Nat) (Option.some Jvm.ClassFile.FieldType.boolean), Jvm.Cond.code ({ cls := "com/example/oddhands/oddhands/simulator/Sample", name := "add", desc := "(Lcom/example/oddhands/oddhands/simulator/Sample;)V" } : Jvm.MethodName) prog_8_method_3_code (2 : Nat) (Option.none : Option Jvm.ClassFile.FieldType), Jvm.Cond.code ({ cls := "java/lang/Math", name := "addExact", desc := "(JJ)J" } : Jvm.MethodName) jdk_29_method_25_code (6 : Nat) (Option.some Jvm.ClassFile.FieldType.long), Jvm.Cond.code ({ cls := "com/example/oddhands/oddhands/simulator/Sample", name := "add", desc := "(J)V" } : Jvm.MethodName) prog_8_method_2_code (3 : Nat) (Option.none : Option Jvm.ClassFile.FieldType), Jvm.Cond.code ({ cls := "java/lang/Math", name := "incrementExact", desc := "(J)J" } : Jvm.MethodName) jdk_29_method_38_code (2 : Nat) (Option.some Jvm.ClassFile.FieldType.long), Jvm.Cond.code ({ cls := "java/lang/Math", name := "multiplyExact", desc := "(JJ)J" } : Jvm.MethodName) jdk_29_method_30_code (10 : Nat) (Option.some Jvm.ClassFile.FieldType.long), Jvm.Cond.code ({ cls := "java/lang/Math", name := "abs", desc := "(J)J" } : Jvm.MethodName) jdk_29_method_61_code (2 : Nat) (Option.some Jvm.ClassFile.FieldType.long)]
set_option maxRecDepth 65536 in
theorem codes_eq : words1.filter isCode = codes1 := rfl
theorem w_codes : ∀ c ∈ words1.filter isCode, c.before args0 about1 = true := by
  rw [codes_eq]
  intro c hc
  simp only [codes1, List.mem_cons, List.not_mem_nil, or_false] at hc
  rcases hc with rfl | rfl | rfl | rfl | rfl | rfl | rfl | rfl | rfl | rfl
  · exact w_c0
  · exact w_c1
  · exact w_c2
  · exact w_c3
  · exact w_c4
  · exact w_c5
  · exact w_c6
  · exact w_c7
  · exact w_c8
  · exact w_c9
set_option maxRecDepth 65536 in
theorem w_t1 : (words1.take 24).all (fun c => isCode c || c.before args0 about1) = true := by decide +kernel
set_option maxRecDepth 65536 in
theorem w_t2 : (words1.drop 24).all (fun c => isCode c || c.before args0 about1) = true := by decide +kernel
theorem w_tables : (allAtoms (Jvm.Cond.code x code maxLocals ret :: tables_1)).before args0 about1 = true := by
  rw [allAtoms_all]
  show words1.all (fun c => c.before args0 about1) = true
  refine all_split ?_ w_codes
  rw [← List.take_append_drop 24 words1, List.all_append, w_t1, w_t2]
  rfl
set_option maxRecDepth 65536 in
theorem w_case : (Jvm.Cond.and given_1 narrow_1).before args0 about1 = true := by decide +kernel
theorem w_applies : (headSpec (Jvm.Cond.code x code maxLocals ret :: tables_1) room_1).applies x e0.platform about1 = true :=
  (Spec.applies_iff w_frames).mpr ⟨w_running, w_runnable, w_alone, w_named, w_hears, w_ripe, w_room, w_tables⟩
theorem atStart : AtStart classFile x code maxLocals ret World_1 tables_1 room_1 Calls_1 rest_1 Pre_1 launch0 p0 e0 about1 theMethod args0 below0 :=
  ⟨lists_1, trivial, launch0.admits_env _ _ _, launch0.least_env, fairChoices_fair.cas, fairChoices_fair.clock, w_frames, w_args, w_heap, w_applies, trivial, trivial, w_case⟩
end start1
theorem witness_1 : WitnessClaimed_1 := ⟨start1.p0, start1.e0, start1.about1, start1.theMethod, start1.args0, start1.below0, start1.atStart⟩
end Jvm.Pilot.@@N@@
