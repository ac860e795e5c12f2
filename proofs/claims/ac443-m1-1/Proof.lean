import JvmDerived
import JvmDerived.Pilot.@@N@@Statement
import JvmDerived.Pilot.@@N@@Code
set_option linter.unusedVariables false
set_option linter.unusedSimpArgs false
namespace Jvm.Pilot.@@N@@
open Jvm Jvm.ClassFile Sem Op Lib Jvm.Free Jvm.Stand Jvm.LawKit Jvm.RoadKit Bundle Jvm.Pilot.@@N@@.Jvm.D
section OwnKit
variable {p : Program} {l : Launch} {e : Env} {R : Room} {s : State} {m : MethodId} {args : Array Value} {below : List Frame} {meth : Method} {c : Code} {T : State} {locs : List Loc} {cells slots : Nat} {Z : State} {a0 : Array Value} {h : Heap} {Q : Option Value → Heap → List Loc → Prop} {kc ks : Nat}
/-- from the state F the run comes to its return, with what Q says -/
def OGo (p : Program) (e : Env) (below : List Frame) (s : State) (Q : Option Value → Heap → List Loc → Prop) (kc ks : Nat) (F : State) : Prop :=
  ∃ (s₂ : State) (o : Outcome), Steps p.tables e below F s₂ ∧ s₂.status = .running ∧ Ended s₂ below o ∧ ∃ v L, o = .returned v ∧ Q v s₂.heap L ∧ FrameEnd s o s₂ L kc ks
theorem OGo.step {F F' : State} (k : ∀ t, Steps p.tables e below F' t → Steps p.tables e below F t) (g : OGo p e below s Q kc ks F') : OGo p e below s Q kc ks F := by
  obtain ⟨s₂, o, h, r⟩ := g
  exact ⟨s₂, o, k _ h, r⟩
theorem OGo.retOut (X : Stand p l e R s m args below meth c T locs cells slots) (hx : p.tables.exec = Jvm.exec) (hlk : meth.locks = false) {pc : Nat} {Ls : Array Slot} {w : Value} {t : FieldType} {i : Instr} {rest : List Value} (hret : meth.sig.returnType = some t) (hn : narrow t w = w)
    (hi : (i = .ireturn ∧ (t = .int ∨ t = .boolean ∨ t = .byte ∨ t = .char ∨ t = .short) ∧ ∃ z, w = .int z) ∨ (i = .lreturn ∧ t = .long ∧ ∃ z, w = .long z) ∨ (i = .dreturn ∧ t = .double ∧ ∃ z, w = .double z) ∨ (i = .freturn ∧ t = .float ∧ ∃ z, w = .float z) ∨ (i = .areturn ∧ t.isReference = true ∧ w.isRef = true))
    (hd : decode c.code pc = .ok (i, 1)) (hQ : Q (some w) T.heap locs) (hc : cells ≤ kc) (hs : slots ≤ ks) : OGo p e below s Q kc ks (T.setTop (mkF m pc Ls (w :: rest))) := by
  obtain ⟨fs, hr, hrun, hended, hW, hsame⟩ := X.leave (v := some w) (fun h => by rw [hret] at h; cases h) hlk
  exact ⟨_, _, Jvm.RoadKit.retOut X hx hret hn hi hd hr, hrun, hended, _, _, rfl, hQ, ⟨_, rfl⟩, hW, hsame.mono hc hs⟩
theorem OGo.retI (X : Stand p l e R s m args below meth c T locs cells slots) (hx : p.tables.exec = Jvm.exec) (hlk : meth.locks = false) {pc : Nat} {Ls : Array Slot} {z : Int32} {rest : List Value} (hret : meth.sig.returnType = some .int) (hd : decode c.code pc = .ok (.ireturn, 1)) (hQ : Q (some (.int z)) T.heap locs) (hc : cells ≤ kc) (hs : slots ≤ ks) :
    OGo p e below s Q kc ks (T.setTop (mkF m pc Ls (.int z :: rest))) := OGo.retOut X hx hlk hret rfl (Or.inl ⟨rfl, Or.inl rfl, _, rfl⟩) hd hQ hc hs
theorem OGo.retJ (X : Stand p l e R s m args below meth c T locs cells slots) (hx : p.tables.exec = Jvm.exec) (hlk : meth.locks = false) {pc : Nat} {Ls : Array Slot} {z : Int64} {rest : List Value} (hret : meth.sig.returnType = some .long) (hd : decode c.code pc = .ok (.lreturn, 1)) (hQ : Q (some (.long z)) T.heap locs) (hc : cells ≤ kc) (hs : slots ≤ ks) :
    OGo p e below s Q kc ks (T.setTop (mkF m pc Ls (.long z :: rest))) := OGo.retOut X hx hlk hret rfl (Or.inr (Or.inl ⟨rfl, rfl, _, rfl⟩)) hd hQ hc hs
theorem OGo.retA (X : Stand p l e R s m args below meth c T locs cells slots) (hx : p.tables.exec = Jvm.exec) (hlk : meth.locks = false) {pc : Nat} {Ls : Array Slot} {w : Value} {t : FieldType} {rest : List Value} (hret : meth.sig.returnType = some t) (ht : t.isReference = true) (hw : w.isRef = true) (hn : narrow t w = w) (hd : decode c.code pc = .ok (.areturn, 1)) (hQ : Q (some w) T.heap locs) (hc : cells ≤ kc) (hs : slots ≤ ks) :
    OGo p e below s Q kc ks (T.setTop (mkF m pc Ls (w :: rest))) := OGo.retOut X hx hlk hret hn (Or.inr (Or.inr (Or.inr (Or.inr ⟨rfl, ht, hw⟩)))) hd hQ hc hs
theorem OGo.retZ (X : Stand p l e R s m args below meth c T locs cells slots) (hx : p.tables.exec = Jvm.exec) (hlk : meth.locks = false) {pc : Nat} {Ls : Array Slot} {z z' : Int32} {t : FieldType} {rest : List Value} (hret : meth.sig.returnType = some t) (ht : t = .boolean ∨ t = .byte ∨ t = .char ∨ t = .short) (hd : decode c.code pc = .ok (.ireturn, 1)) (hz : nar t z = z') (hQ : Q (some (.int z')) T.heap locs) (hc : cells ≤ kc) (hs : slots ≤ ks) :
    OGo p e below s Q kc ks (T.setTop (mkF m pc Ls (.int z :: rest))) := by
  subst hz
  obtain ⟨fs, hr, hrun, hended, hW, hsame⟩ := X.leave (v := some (.int (nar t z))) (fun h => by rw [hret] at h; cases h) hlk
  exact ⟨_, _, Jvm.RoadKit.retN X hx hret ht hd hr, hrun, hended, _, _, rfl, hQ, ⟨_, rfl⟩, hW, hsame.mono hc hs⟩
theorem OGo.retV (X : Stand p l e R s m args below meth c T locs cells slots) (hx : p.tables.exec = Jvm.exec) (hlk : meth.locks = false) {pc : Nat} {Ls : Array Slot} (hret : meth.sig.returnType = none) (hd : decode c.code pc = .ok (.return_, 1)) (hQ : Q none T.heap locs) (hc : cells ≤ kc) (hs : slots ≤ ks) :
    OGo p e below s Q kc ks (T.setTop (mkF m pc Ls [])) := by
  obtain ⟨fs, hr, hrun, hended, hW, hsame⟩ := X.leave (v := none) (fun _ => rfl) hlk
  exact ⟨_, _, X.returnOut hx hret hd hr, hrun, hended, _, _, rfl, hQ, ⟨_, rfl⟩, hW, hsame.mono hc hs⟩
/-- a body's contract -/
abbrev OCtr (l : Launch) (Z : State) (y : MethodName) (bytes : ByteArray) (maxL : Nat) (ret : Option FieldType) (ws : List Jvm.Cond) (rm : Room) (as' : Array Value) (h0 : Heap) (Q : Option Value → Heap → List Loc → Prop) : Prop :=
  MetFree l y (head1 (Jvm.Cond.code y bytes maxL ret :: ws) rm) (fun a U => a = as' ∧ Z.Warmed39 U.vm ∧ U.heap = h0) (fun _ _ _ _ _ => True) (fun _ U o U' => ∃ v L, o = .returned v ∧ Q v U'.heap L ∧ FrameEnd U o U' L rm.cells rm.slots)
theorem OCtr.of {y : MethodName} {bytes : ByteArray} {maxL : Nat} {ret : Option FieldType} {ws : List Jvm.Cond} {rm : Room} {as' : Array Value} (hp : plainFor y = true)
    (k : ∀ (p : Program) (e : Env) (s : State) (m : MethodId) (below : List Frame) (meth : Method) (c : Code) (s₁ : State), Stand p l e rm s m as' below meth c s₁ [] 0 0 → p.tables.exec = Jvm.exec → meth.locks = false → Z.Warmed39 s.vm → s.vm.findClass y.cls = some m.cls → meth.name = y.name → c.code = bytes → c.maxLocals = maxL → meth.sig.returnType = ret → s₁.heap = h →
      OGo p e below s Q rm.cells rm.slots (s₁.setTop (entryFrame m as' maxL))) : OCtr l Z y bytes maxL ret ws rm as' h Q := by
  refine MetFree.of_bodySF hp hisR ?_
  intro p e s m args below meth c s₁ Bd hml0 hP hK
  obtain ⟨rfl, hZ, hh⟩ := hP
  exact k p e s m below meth c s₁ (Stand.of_body Bd) Bd.exec Bd.notSynchronized hZ (findClass_of_methodNamed Bd.named) (name_of_methodNamed Bd.named Bd.method).1 Bd.bytes hml0 Bd.returns (by rw [← hh, Bd.state]; rfl)
/-- it returns w, and the heap is as it was -/
def OPure (w : Option Value) (h0 : Heap) (n0 : Nat) : Option Value → Heap → List Loc → Prop := fun v h L => v = w ∧ Fr n0 L ∧ h = h0
theorem OGo.callS (X : Stand p l e R s m args below meth c T locs cells slots) (hx : p.tables.exec = Jvm.exec) (hZ : Z.Warmed39 s.vm) {own : String} {index : Nat} {y : MethodName} {bytes : ByteArray} {maxL : Nat} {ret : Option FieldType} (hown : s.vm.findClass own = some m.cls)
    (wl : (Jvm.Cond.methodLink own index y).before a0 Z = true) (wst : (Jvm.Cond.static y).before a0 Z = true) (wi : (Jvm.Cond.initialized y.cls).before a0 Z = true) (wc : (Jvm.Cond.code y bytes maxL ret).before a0 Z = true) (hy : y.cls ≠ "java/lang/invoke/MethodHandle" ∧ y.cls ≠ "java/lang/invoke/VarHandle")
    {rm : Room} {as' : Array Value} {Q' : Option Value → Heap → List Loc → Prop} (hM : OCtr l Z y bytes maxL ret [] rm as' h Q') {W : Nat} (hf : rm.frames + 1 ≤ R.frames) (hl : W + (maxL + 11) + rm.locals ≤ R.locals)
    {g : JFrame} (hg : g.method = m) (hsize : g.locals.size = c.maxLocals) {argsL rest : List Value} (hlen : ∀ sig, parseMethodDescriptor y.desc = some sig → argsL.length = sig.parameters.length) (hstack : g.stack = argsL.reverse ++ rest) (hW : 2 * g.monitorRoom + (rest.map fun v => v.category).sum ≤ W) (hdg : decode c.code g.pc = .ok (.invokestatic index, 3))
    (ha : argsL.toArray = as') (e0 : T.heap = h) (hc : cells + rm.cells ≤ R.cells) (hs : slots + rm.slots ≤ R.slots)
    (k : ∀ (v : Option Value) (T' : State) (L' : List Loc), Stand p l e R s m args below meth c T' (locs ++ L') (cells + rm.cells) (slots + rm.slots) → Q' v T'.heap L' → OGo p e below s Q kc ks (T'.setTop { g with pc := g.pc + 3, stack := v.toList ++ rest })) : OGo p e below s Q kc ks (T.setTop g) := by
  obtain ⟨v, _, ⟨T', L', k', n'⟩, -, X', ⟨Lc, hQ, l', y', z'⟩, st⟩ := Jvm.LawKit.callS X hx hown (mvT hZ wl) (mvT hZ wst) (mvT hZ wi) (mvT hZ wc) hy (backOf (W := W) hM hZ wc wi hf hl) hg hsize hlen hstack hW hdg (fun _ _ => ⟨ha, e0, hc, hs⟩)
  dsimp only [Pt.U, Pt.locs, Pt.cells, Pt.slots] at X' l' y' z' st hQ
  subst l' y' z'
  exact OGo.step st (k v T' Lc X' hQ)
theorem OGo.callV (X : Stand p l e R s m args below meth c T locs cells slots) (hx : p.tables.exec = Jvm.exec) (hZ : Z.Warmed39 s.vm) {own C : String} {index : Nat} {y z : MethodName} {bytes : ByteArray} {maxL : Nat} {ret : Option FieldType} (hown : s.vm.findClass own = some m.cls)
    (wl : (Jvm.Cond.methodLink own index y).before a0 Z = true) (wd : (Jvm.Cond.declares y).before a0 Z = true) (hnf : NotFace s y) (wsel : (Jvm.Cond.selects C y z).before a0 Z = true) (win : (Jvm.Cond.instanceMethod z).before a0 Z = true) (wi : (Jvm.Cond.initialized z.cls).before a0 Z = true) (wc : (Jvm.Cond.code z bytes maxL ret).before a0 Z = true) (hy : y.cls ≠ "java/lang/invoke/MethodHandle" ∧ y.cls ≠ "java/lang/invoke/VarHandle")
    {rm : Room} {as' : Array Value} {Q' : Option Value → Heap → List Loc → Prop} (hM : OCtr l Z z bytes maxL ret [] rm as' h Q') {W : Nat} (hf : rm.frames + 1 ≤ R.frames) (hl : W + (maxL + 11) + rm.locals ≤ R.locals) {b : Addr} (E : Exa Z h b C)
    {g : JFrame} (hg : g.method = m) (hsize : g.locals.size = c.maxLocals) {argsL rest : List Value} (hlen : ∀ sig, parseMethodDescriptor y.desc = some sig → argsL.length = sig.parameters.length) (hstack : g.stack = argsL.reverse ++ .ref b :: rest) (hW : 2 * g.monitorRoom + (rest.map fun v => v.category).sum ≤ W) (hdg : decode c.code g.pc = .ok (.invokevirtual index, 3))
    (ha : (.ref b :: argsL).toArray = as') (e0 : T.heap = h) (hc : cells + rm.cells ≤ R.cells) (hs : slots + rm.slots ≤ R.slots)
    (k : ∀ (v : Option Value) (T' : State) (L' : List Loc), Stand p l e R s m args below meth c T' (locs ++ L') (cells + rm.cells) (slots + rm.slots) → Q' v T'.heap L' → OGo p e below s Q kc ks (T'.setTop { g with pc := g.pc + 3, stack := v.toList ++ rest })) : OGo p e below s Q kc ks (T.setTop g) := by
  obtain ⟨cq, kq, q1, q2, q3⟩ := isOf hZ e0 E
  obtain ⟨v, _, ⟨T', L', k', n'⟩, -, X', ⟨Lc, hQ, l', y', z'⟩, st⟩ := X.virtualBack hx hown (mvT hZ wl) (mvT hZ wd) hnf (mvT hZ wsel) (mvT hZ win) hy (backOf (W := W) hM hZ wc wi hf hl) q1 q3 hg hsize (Steps.refl _) hlen hstack hW hdg (fun _ _ => ⟨ha, e0, hc, hs⟩)
  dsimp only [Pt.U, Pt.locs, Pt.cells, Pt.slots] at X' l' y' z' st hQ
  subst l' y' z'
  exact OGo.step (fun t q => st.trans q) (k v T' Lc X' hQ)
theorem OGo.callC (X : Stand p l e R s m args below meth c T locs cells slots) (hx : p.tables.exec = Jvm.exec) (hZ : Z.Warmed39 s.vm) {own : String} {index : Nat} {y : MethodName} {bytes : ByteArray} {maxL : Nat} (hy1 : y.name = "<init>") (hown : s.vm.findClass own = some m.cls)
    (wl : (Jvm.Cond.methodLink own index y).before a0 Z = true) (win : (Jvm.Cond.instanceMethod y).before a0 Z = true) (wi : (Jvm.Cond.initialized y.cls).before a0 Z = true) (wc : (Jvm.Cond.code y bytes maxL none).before a0 Z = true) (hy : y.cls ≠ "java/lang/invoke/MethodHandle" ∧ y.cls ≠ "java/lang/invoke/VarHandle")
    {rm : Room} {as' : Array Value} {Q' : Option Value → Heap → List Loc → Prop} (hM : OCtr l Z y bytes maxL none [] rm as' h Q') {W : Nat} (hf : rm.frames + 1 ≤ R.frames) (hl : W + (maxL + 11) + rm.locals ≤ R.locals) {b : Addr}
    {g : JFrame} (hg : g.method = m) (hsize : g.locals.size = c.maxLocals) {argsL rest : List Value} (hlen : ∀ sig, parseMethodDescriptor y.desc = some sig → argsL.length = sig.parameters.length) (hstack : g.stack = argsL.reverse ++ .ref b :: rest) (hW : 2 * g.monitorRoom + (rest.map fun v => v.category).sum ≤ W) (hdg : decode c.code g.pc = .ok (.invokespecial index, 3))
    (ha : (.ref b :: argsL).toArray = as') (e0 : T.heap = h) (hc : cells + rm.cells ≤ R.cells) (hs : slots + rm.slots ≤ R.slots)
    (k : ∀ (v : Option Value) (T' : State) (L' : List Loc), Stand p l e R s m args below meth c T' (locs ++ L') (cells + rm.cells) (slots + rm.slots) → Q' v T'.heap L' → OGo p e below s Q kc ks (T'.setTop { g with pc := g.pc + 3, stack := v.toList ++ rest })) : OGo p e below s Q kc ks (T.setTop g) := by
  obtain ⟨v, _, ⟨T', L', k', n'⟩, -, X', ⟨Lc, hQ, l', y', z'⟩, st⟩ := X.specialBack hx hy1 hown (mvT hZ wl) (mvT hZ win) (mvT hZ wc) hy (backOf (W := W) hM hZ wc wi hf hl) hg hsize (Steps.refl _) hlen hstack hW hdg (fun _ _ => ⟨ha, e0, hc, hs⟩)
  dsimp only [Pt.U, Pt.locs, Pt.cells, Pt.slots] at X' l' y' z' st hQ
  subst l' y' z'
  exact OGo.step (fun t q => st.trans q) (k v T' Lc X' hQ)
theorem own_wd (hw : ∀ d ∈ tables_1, d.before a0 Z = true) (i : Nat) {d : Jvm.Cond} (q : tables_1[i]? = some d) : d.before a0 Z = true := hw _ (List.mem_of_getElem? q)
theorem own_narc (x : Int32) : nar .char (x.toUInt32.toUInt16.toUInt32.toInt32) = x.toUInt32.toUInt16.toUInt32.toInt32 := by
  show x.toUInt32.toUInt16.toUInt32.toInt32.toUInt32.toUInt16.toUInt32.toInt32 = _
  simp only [UInt32.toUInt32_toInt32, UInt16.toUInt16_toUInt32]
theorem own_obj {a : Addr} {C : String} (F : Exa Z h a C) : ∃ cell : Cell, h[a]? = some cell ∧ cell.vm.isStatics = false := by
  obtain ⟨cell, _, h1, -, -, h4, -⟩ := F; exact ⟨cell, h1, h4⟩
theorem own_stakeep {h' : Heap} {ws : List Addr} {C n d : String} {v : Value} (F : Sta Z h C n d v) (K : Keep h h' ws) (q : ∀ x ∈ ws, ∃ cell : Cell, h[x]? = some cell ∧ cell.vm.isStatics = false) : Sta Z h' C n d v := by
  obtain ⟨cf, i, k, f, st, cell, h1, h2, h3, h4, h5, h6, h7⟩ := F
  refine ⟨cf, i, k, f, st, cell, h1, h2, h3, h4, K.2.1 _ _ h5 fun hm => ?_, h6, h7⟩
  obtain ⟨c', g1, g2⟩ := q _ hm
  cases g1.symm.trans h5
  rw [h6] at g2; cases g2
end OwnKit
/-! body 3: com/example/kette/kette/EcmaPatternReader.makesState:(I)Z -/
theorem d3_0 : decode prog_12_method_37_code 0 = .ok (.iload_n 0, 1) := by decide +kernel
theorem d3_1 : decode prog_12_method_37_code 1 = .ok (.bipush 15, 2) := by decide +kernel
theorem d3_3 : decode prog_12_method_37_code 3 = .ok (.iand, 1) := by decide +kernel
theorem d3_4 : decode prog_12_method_37_code 4 = .ok (.istore_n 1, 1) := by decide +kernel
theorem d3_5 : decode prog_12_method_37_code 5 = .ok (.iload_n 1, 1) := by decide +kernel
theorem d3_6 : decode prog_12_method_37_code 6 = .ok (.iconst 4, 1) := by decide +kernel
theorem d3_7 : decode prog_12_method_37_code 7 = .ok (.if_icmp .eq 13, 3) := by decide +kernel
theorem d3_10 : decode prog_12_method_37_code 10 = .ok (.iload_n 1, 1) := by decide +kernel
theorem d3_11 : decode prog_12_method_37_code 11 = .ok (.bipush 9, 2) := by decide +kernel
theorem d3_13 : decode prog_12_method_37_code 13 = .ok (.if_icmp .eq 7, 3) := by decide +kernel
theorem d3_16 : decode prog_12_method_37_code 16 = .ok (.iconst 1, 1) := by decide +kernel
theorem d3_17 : decode prog_12_method_37_code 17 = .ok (.goto 4, 3) := by decide +kernel
theorem d3_20 : decode prog_12_method_37_code 20 = .ok (.iconst 0, 1) := by decide +kernel
theorem d3_21 : decode prog_12_method_37_code 21 = .ok (.ireturn, 1) := by decide +kernel
theorem pn_3 : plainName "com/example/kette/kette/EcmaPatternReader" = true := by first | (simp [plainName, overriddenIn]; done) | decide +kernel
theorem ef_3 (m : MethodId) (x0 : Int32) : entryFrame m #[(.int x0)] 2 = mkF m 0 #[.val (.int x0), .unset] [] := by first | (simp [entryFrame, mkF, argsToLocals, Value.category]; done) | rfl
def f3 (p0 : Int32) : Int32 :=
  if (p0 &&& (15 : Int32)) = (4 : Int32) then (0 : Int32)
  else if (p0 &&& (15 : Int32)) = (9 : Int32) then (0 : Int32)
    else (1 : Int32)
theorem fb3 (p0 : Int32) : nar .boolean (f3 p0) = (f3 p0) := by
  unfold f3
  repeat' split
  all_goals first | rfl | decide
set_option maxRecDepth 65536 in
set_option maxHeartbeats 40000000 in
theorem rm3 (l : Launch) (Z : State) (az : Array Value) (hw : ∀ d ∈ tables_1, d.before az Z = true) (ws : List Jvm.Cond) (p0 : Int32) (h0 : Heap) (n0 : Nat) (Z0 : n0 ≤ h0.size) :
    OCtr l Z (⟨"com/example/kette/kette/EcmaPatternReader", "makesState", "(I)Z"⟩ : MethodName) prog_12_method_37_code 2 (some .boolean) ws ({ frames := 0, cells := 0, slots := 0, locals := 0 } : Room) #[(.int p0)] h0 (OPure (some (.int (f3 p0))) h0 n0) := by
  refine OCtr.of (plainFor_of_name pn_3) ?_
  intro p e s m below meth c s₁ X0 hx hlk hZ hown0 hnm hby hml0 hret e0
  have hown : s.vm.findClass "com/example/kette/kette/EcmaPatternReader" = some m.cls := hown0
  have hml : c.maxLocals = 2 := hml0
  have N0 := Fr.nil n0
  refine OGo.step (fun t k => castTop (ef_3 m p0) k) ?_
  refine OGo.step (F' := s₁.setTop (mkF m 7 #[.val (.int p0), .val (.int (p0 &&& (15 : Int32)))] [(.int (4 : Int32)), (.int (p0 &&& (15 : Int32)))])) (fun t kt => ?_) ?_
  · show Steps p.tables e below (s₁.setTop (mkF m 0 #[.val (.int p0), .unset] [])) t
    refine XS.iloadN X0.here hx rfl (hb hby d3_0) rfl ?_
    show Steps p.tables e below (s₁.setTop (mkF m 1 #[.val (.int p0), .unset] [(.int p0)])) t
    refine XS.bipush X0.here hx rfl (hb hby d3_1) ?_
    show Steps p.tables e below (s₁.setTop (mkF m 3 #[.val (.int p0), .unset] [(.int (15 : Int32)), (.int p0)])) t
    refine XS.iand X0.here hx rfl (hb hby d3_3) rfl ?_
    show Steps p.tables e below (s₁.setTop (mkF m 4 #[.val (.int p0), .unset] [(.int (p0 &&& (15 : Int32)))])) t
    refine XS.istoreN X0.here hx rfl (hb hby d3_4) rfl (l' := #[.val (.int p0), .val (.int (p0 &&& (15 : Int32)))]) rfl ?_
    show Steps p.tables e below (s₁.setTop (mkF m 5 #[.val (.int p0), .val (.int (p0 &&& (15 : Int32)))] [])) t
    refine XS.iloadN X0.here hx rfl (hb hby d3_5) rfl ?_
    show Steps p.tables e below (s₁.setTop (mkF m 6 #[.val (.int p0), .val (.int (p0 &&& (15 : Int32)))] [(.int (p0 &&& (15 : Int32)))])) t
    refine XS.iconst X0.here hx rfl (hb hby d3_6) ?_
    exact kt
  by_cases hc7 : (p0 &&& (15 : Int32)) = (4 : Int32)
  · refine OGo.step (F' := s₁.setTop (mkF m 20 #[.val (.int p0), .val (.int (p0 &&& (15 : Int32)))] [])) (fun t kt => ?_) ?_
    · show Steps p.tables e below (s₁.setTop (mkF m 7 #[.val (.int p0), .val (.int (p0 &&& (15 : Int32)))] [(.int (4 : Int32)), (.int (p0 &&& (15 : Int32)))])) t
      refine XS.icmpYes X0.here hx rfl (pc0 := 7) (pc' := 20) rfl (hb hby d3_7) rfl (teq hc7).1 (by decide) (by decide) ?_
      exact kt
    refine OGo.step (F' := s₁.setTop (mkF m 21 #[.val (.int p0), .val (.int (p0 &&& (15 : Int32)))] [(.int (0 : Int32))])) (fun t kt => ?_) ?_
    · show Steps p.tables e below (s₁.setTop (mkF m 20 #[.val (.int p0), .val (.int (p0 &&& (15 : Int32)))] [])) t
      refine XS.iconst X0.here hx rfl (hb hby d3_20) ?_
      exact kt
    refine OGo.retZ X0 hx hlk (t := .boolean) (z' := (0 : Int32)) hret (by simp) (hb hby d3_21) rfl ?_ (by decide) (by decide)
    exact ⟨(by rw [f3, if_pos hc7]), N0, e0⟩
  · refine OGo.step (F' := s₁.setTop (mkF m 10 #[.val (.int p0), .val (.int (p0 &&& (15 : Int32)))] [])) (fun t kt => ?_) ?_
    · show Steps p.tables e below (s₁.setTop (mkF m 7 #[.val (.int p0), .val (.int (p0 &&& (15 : Int32)))] [(.int (4 : Int32)), (.int (p0 &&& (15 : Int32)))])) t
      refine XS.icmpNo X0.here hx rfl (hb hby d3_7) rfl (feq hc7).1 ?_
      exact kt
    refine OGo.step (F' := s₁.setTop (mkF m 13 #[.val (.int p0), .val (.int (p0 &&& (15 : Int32)))] [(.int (9 : Int32)), (.int (p0 &&& (15 : Int32)))])) (fun t kt => ?_) ?_
    · show Steps p.tables e below (s₁.setTop (mkF m 10 #[.val (.int p0), .val (.int (p0 &&& (15 : Int32)))] [])) t
      refine XS.iloadN X0.here hx rfl (hb hby d3_10) rfl ?_
      show Steps p.tables e below (s₁.setTop (mkF m 11 #[.val (.int p0), .val (.int (p0 &&& (15 : Int32)))] [(.int (p0 &&& (15 : Int32)))])) t
      refine XS.bipush X0.here hx rfl (hb hby d3_11) ?_
      exact kt
    by_cases hc13 : (p0 &&& (15 : Int32)) = (9 : Int32)
    · refine OGo.step (F' := s₁.setTop (mkF m 20 #[.val (.int p0), .val (.int (p0 &&& (15 : Int32)))] [])) (fun t kt => ?_) ?_
      · show Steps p.tables e below (s₁.setTop (mkF m 13 #[.val (.int p0), .val (.int (p0 &&& (15 : Int32)))] [(.int (9 : Int32)), (.int (p0 &&& (15 : Int32)))])) t
        refine XS.icmpYes X0.here hx rfl (pc0 := 13) (pc' := 20) rfl (hb hby d3_13) rfl (teq hc13).1 (by decide) (by decide) ?_
        exact kt
      refine OGo.step (F' := s₁.setTop (mkF m 21 #[.val (.int p0), .val (.int (p0 &&& (15 : Int32)))] [(.int (0 : Int32))])) (fun t kt => ?_) ?_
      · show Steps p.tables e below (s₁.setTop (mkF m 20 #[.val (.int p0), .val (.int (p0 &&& (15 : Int32)))] [])) t
        refine XS.iconst X0.here hx rfl (hb hby d3_20) ?_
        exact kt
      refine OGo.retZ X0 hx hlk (t := .boolean) (z' := (0 : Int32)) hret (by simp) (hb hby d3_21) rfl ?_ (by decide) (by decide)
      exact ⟨(by rw [f3, if_neg hc7, if_pos hc13]), N0, e0⟩
    · refine OGo.step (F' := s₁.setTop (mkF m 16 #[.val (.int p0), .val (.int (p0 &&& (15 : Int32)))] [])) (fun t kt => ?_) ?_
      · show Steps p.tables e below (s₁.setTop (mkF m 13 #[.val (.int p0), .val (.int (p0 &&& (15 : Int32)))] [(.int (9 : Int32)), (.int (p0 &&& (15 : Int32)))])) t
        refine XS.icmpNo X0.here hx rfl (hb hby d3_13) rfl (feq hc13).1 ?_
        exact kt
      refine OGo.step (F' := s₁.setTop (mkF m 21 #[.val (.int p0), .val (.int (p0 &&& (15 : Int32)))] [(.int (1 : Int32))])) (fun t kt => ?_) ?_
      · show Steps p.tables e below (s₁.setTop (mkF m 16 #[.val (.int p0), .val (.int (p0 &&& (15 : Int32)))] [])) t
        refine XS.iconst X0.here hx rfl (hb hby d3_16) ?_
        show Steps p.tables e below (s₁.setTop (mkF m 17 #[.val (.int p0), .val (.int (p0 &&& (15 : Int32)))] [(.int (1 : Int32))])) t
        refine XS.goto X0.here hx rfl (pc0 := 17) (pc' := 21) rfl (hb hby d3_17) (by decide) (by decide) ?_
        exact kt
      refine OGo.retZ X0 hx hlk (t := .boolean) (z' := (1 : Int32)) hret (by simp) (hb hby d3_21) rfl ?_ (by decide) (by decide)
      exact ⟨(by rw [f3, if_neg hc7, if_neg hc13]), N0, e0⟩
/-! body 2: com/example/kette/kette/EcmaPatternReaderCountStatesPinLaw.makes:(I)I -/
theorem d2_0 : decode method_3_code 0 = .ok (.iload_n 0, 1) := by decide +kernel
theorem d2_1 : decode method_3_code 1 = .ok (.bipush 15, 2) := by decide +kernel
theorem d2_3 : decode method_3_code 3 = .ok (.iand, 1) := by decide +kernel
theorem d2_4 : decode method_3_code 4 = .ok (.istore_n 1, 1) := by decide +kernel
theorem d2_5 : decode method_3_code 5 = .ok (.iload_n 1, 1) := by decide +kernel
theorem d2_6 : decode method_3_code 6 = .ok (.iconst 4, 1) := by decide +kernel
theorem d2_7 : decode method_3_code 7 = .ok (.if_icmp .ne 5, 3) := by decide +kernel
theorem d2_10 : decode method_3_code 10 = .ok (.iconst 0, 1) := by decide +kernel
theorem d2_11 : decode method_3_code 11 = .ok (.ireturn, 1) := by decide +kernel
theorem d2_12 : decode method_3_code 12 = .ok (.iload_n 1, 1) := by decide +kernel
theorem d2_13 : decode method_3_code 13 = .ok (.bipush 9, 2) := by decide +kernel
theorem d2_15 : decode method_3_code 15 = .ok (.if_icmp .ne 5, 3) := by decide +kernel
theorem d2_18 : decode method_3_code 18 = .ok (.iconst 0, 1) := by decide +kernel
theorem d2_19 : decode method_3_code 19 = .ok (.ireturn, 1) := by decide +kernel
theorem d2_20 : decode method_3_code 20 = .ok (.iconst 1, 1) := by decide +kernel
theorem d2_21 : decode method_3_code 21 = .ok (.ireturn, 1) := by decide +kernel
theorem pn_2 : plainName "com/example/kette/kette/EcmaPatternReaderCountStatesPinLaw" = true := by first | (simp [plainName, overriddenIn]; done) | decide +kernel
theorem ef_2 (m : MethodId) (x0 : Int32) : entryFrame m #[(.int x0)] 2 = mkF m 0 #[.val (.int x0), .unset] [] := by first | (simp [entryFrame, mkF, argsToLocals, Value.category]; done) | rfl
def f2 (p0 : Int32) : Int32 :=
  if (p0 &&& (15 : Int32)) = (4 : Int32) then (0 : Int32)
  else if (p0 &&& (15 : Int32)) = (9 : Int32) then (0 : Int32)
    else (1 : Int32)
set_option maxRecDepth 65536 in
set_option maxHeartbeats 40000000 in
theorem rm2 (l : Launch) (Z : State) (az : Array Value) (hw : ∀ d ∈ tables_1, d.before az Z = true) (ws : List Jvm.Cond) (p0 : Int32) (h0 : Heap) (n0 : Nat) (Z0 : n0 ≤ h0.size) :
    OCtr l Z (⟨"com/example/kette/kette/EcmaPatternReaderCountStatesPinLaw", "makes", "(I)I"⟩ : MethodName) method_3_code 2 (some .int) ws ({ frames := 0, cells := 0, slots := 0, locals := 0 } : Room) #[(.int p0)] h0 (OPure (some (.int (f2 p0))) h0 n0) := by
  refine OCtr.of (plainFor_of_name pn_2) ?_
  intro p e s m below meth c s₁ X0 hx hlk hZ hown0 hnm hby hml0 hret e0
  have hown : s.vm.findClass "com/example/kette/kette/EcmaPatternReaderCountStatesPinLaw" = some m.cls := hown0
  have hml : c.maxLocals = 2 := hml0
  have N0 := Fr.nil n0
  refine OGo.step (fun t k => castTop (ef_2 m p0) k) ?_
  refine OGo.step (F' := s₁.setTop (mkF m 7 #[.val (.int p0), .val (.int (p0 &&& (15 : Int32)))] [(.int (4 : Int32)), (.int (p0 &&& (15 : Int32)))])) (fun t kt => ?_) ?_
  · show Steps p.tables e below (s₁.setTop (mkF m 0 #[.val (.int p0), .unset] [])) t
    refine XS.iloadN X0.here hx rfl (hb hby d2_0) rfl ?_
    show Steps p.tables e below (s₁.setTop (mkF m 1 #[.val (.int p0), .unset] [(.int p0)])) t
    refine XS.bipush X0.here hx rfl (hb hby d2_1) ?_
    show Steps p.tables e below (s₁.setTop (mkF m 3 #[.val (.int p0), .unset] [(.int (15 : Int32)), (.int p0)])) t
    refine XS.iand X0.here hx rfl (hb hby d2_3) rfl ?_
    show Steps p.tables e below (s₁.setTop (mkF m 4 #[.val (.int p0), .unset] [(.int (p0 &&& (15 : Int32)))])) t
    refine XS.istoreN X0.here hx rfl (hb hby d2_4) rfl (l' := #[.val (.int p0), .val (.int (p0 &&& (15 : Int32)))]) rfl ?_
    show Steps p.tables e below (s₁.setTop (mkF m 5 #[.val (.int p0), .val (.int (p0 &&& (15 : Int32)))] [])) t
    refine XS.iloadN X0.here hx rfl (hb hby d2_5) rfl ?_
    show Steps p.tables e below (s₁.setTop (mkF m 6 #[.val (.int p0), .val (.int (p0 &&& (15 : Int32)))] [(.int (p0 &&& (15 : Int32)))])) t
    refine XS.iconst X0.here hx rfl (hb hby d2_6) ?_
    exact kt
  by_cases hc7 : (p0 &&& (15 : Int32)) = (4 : Int32)
  · refine OGo.step (F' := s₁.setTop (mkF m 10 #[.val (.int p0), .val (.int (p0 &&& (15 : Int32)))] [])) (fun t kt => ?_) ?_
    · show Steps p.tables e below (s₁.setTop (mkF m 7 #[.val (.int p0), .val (.int (p0 &&& (15 : Int32)))] [(.int (4 : Int32)), (.int (p0 &&& (15 : Int32)))])) t
      refine XS.icmpNo X0.here hx rfl (hb hby d2_7) rfl (teq hc7).2 ?_
      exact kt
    refine OGo.step (F' := s₁.setTop (mkF m 11 #[.val (.int p0), .val (.int (p0 &&& (15 : Int32)))] [(.int (0 : Int32))])) (fun t kt => ?_) ?_
    · show Steps p.tables e below (s₁.setTop (mkF m 10 #[.val (.int p0), .val (.int (p0 &&& (15 : Int32)))] [])) t
      refine XS.iconst X0.here hx rfl (hb hby d2_10) ?_
      exact kt
    refine OGo.retI X0 hx hlk hret (hb hby d2_11) ?_ (by decide) (by decide)
    exact ⟨(by rw [f2, if_pos hc7]), N0, e0⟩
  · refine OGo.step (F' := s₁.setTop (mkF m 12 #[.val (.int p0), .val (.int (p0 &&& (15 : Int32)))] [])) (fun t kt => ?_) ?_
    · show Steps p.tables e below (s₁.setTop (mkF m 7 #[.val (.int p0), .val (.int (p0 &&& (15 : Int32)))] [(.int (4 : Int32)), (.int (p0 &&& (15 : Int32)))])) t
      refine XS.icmpYes X0.here hx rfl (pc0 := 7) (pc' := 12) rfl (hb hby d2_7) rfl (feq hc7).2 (by decide) (by decide) ?_
      exact kt
    refine OGo.step (F' := s₁.setTop (mkF m 15 #[.val (.int p0), .val (.int (p0 &&& (15 : Int32)))] [(.int (9 : Int32)), (.int (p0 &&& (15 : Int32)))])) (fun t kt => ?_) ?_
    · show Steps p.tables e below (s₁.setTop (mkF m 12 #[.val (.int p0), .val (.int (p0 &&& (15 : Int32)))] [])) t
      refine XS.iloadN X0.here hx rfl (hb hby d2_12) rfl ?_
      show Steps p.tables e below (s₁.setTop (mkF m 13 #[.val (.int p0), .val (.int (p0 &&& (15 : Int32)))] [(.int (p0 &&& (15 : Int32)))])) t
      refine XS.bipush X0.here hx rfl (hb hby d2_13) ?_
      exact kt
    by_cases hc15 : (p0 &&& (15 : Int32)) = (9 : Int32)
    · refine OGo.step (F' := s₁.setTop (mkF m 18 #[.val (.int p0), .val (.int (p0 &&& (15 : Int32)))] [])) (fun t kt => ?_) ?_
      · show Steps p.tables e below (s₁.setTop (mkF m 15 #[.val (.int p0), .val (.int (p0 &&& (15 : Int32)))] [(.int (9 : Int32)), (.int (p0 &&& (15 : Int32)))])) t
        refine XS.icmpNo X0.here hx rfl (hb hby d2_15) rfl (teq hc15).2 ?_
        exact kt
      refine OGo.step (F' := s₁.setTop (mkF m 19 #[.val (.int p0), .val (.int (p0 &&& (15 : Int32)))] [(.int (0 : Int32))])) (fun t kt => ?_) ?_
      · show Steps p.tables e below (s₁.setTop (mkF m 18 #[.val (.int p0), .val (.int (p0 &&& (15 : Int32)))] [])) t
        refine XS.iconst X0.here hx rfl (hb hby d2_18) ?_
        exact kt
      refine OGo.retI X0 hx hlk hret (hb hby d2_19) ?_ (by decide) (by decide)
      exact ⟨(by rw [f2, if_neg hc7, if_pos hc15]), N0, e0⟩
    · refine OGo.step (F' := s₁.setTop (mkF m 20 #[.val (.int p0), .val (.int (p0 &&& (15 : Int32)))] [])) (fun t kt => ?_) ?_
      · show Steps p.tables e below (s₁.setTop (mkF m 15 #[.val (.int p0), .val (.int (p0 &&& (15 : Int32)))] [(.int (9 : Int32)), (.int (p0 &&& (15 : Int32)))])) t
        refine XS.icmpYes X0.here hx rfl (pc0 := 15) (pc' := 20) rfl (hb hby d2_15) rfl (feq hc15).2 (by decide) (by decide) ?_
        exact kt
      refine OGo.step (F' := s₁.setTop (mkF m 21 #[.val (.int p0), .val (.int (p0 &&& (15 : Int32)))] [(.int (1 : Int32))])) (fun t kt => ?_) ?_
      · show Steps p.tables e below (s₁.setTop (mkF m 20 #[.val (.int p0), .val (.int (p0 &&& (15 : Int32)))] [])) t
        refine XS.iconst X0.here hx rfl (hb hby d2_20) ?_
        exact kt
      refine OGo.retI X0 hx hlk hret (hb hby d2_21) ?_ (by decide) (by decide)
      exact ⟨(by rw [f2, if_neg hc7, if_neg hc15]), N0, e0⟩
/-- how many of them make a state -/
def own_cnt : List Int32 → Int32
  | [] => 0
  | x :: xs => (if f3 x = (0 : Int32) then 0 else 1) + own_cnt xs
theorem own_nat {i n : Int32} (h0 : ¬ i < 0) (hn : ¬ n < 0) : (i < n ↔ i.toNatClampNeg < n.toNatClampNeg) := by
  simp only [Int32.lt_iff_toInt_lt, Int32.toNatClampNeg, Int32.reduceToInt] at *; omega
theorem own_inc {i n : Int32} (h0 : ¬ i < 0) (h : i < n) : ¬ (i + (1 : Int32)) < 0 ∧ (i + (1 : Int32)).toNatClampNeg = i.toNatClampNeg + 1 := by
  have c1 := c_iadd i (1 : Int32)
  have l1 := n.toInt_lt; have l2 := (i + (1 : Int32)).toInt_lt; have l3 := (i + (1 : Int32)).le_toInt
  simp only [Int32.lt_iff_toInt_lt, Int32.toNatClampNeg, Int32.reduceToInt] at *; omega
/-! body 1: com/example/kette/kette/EcmaPatternReader.countStates:([I)I -/
theorem d1_0 : decode prog_12_method_10_code 0 = .ok (.iconst 0, 1) := by decide +kernel
theorem d1_1 : decode prog_12_method_10_code 1 = .ok (.istore_n 1, 1) := by decide +kernel
theorem d1_2 : decode prog_12_method_10_code 2 = .ok (.aload_n 0, 1) := by decide +kernel
theorem d1_3 : decode prog_12_method_10_code 3 = .ok (.astore_n 2, 1) := by decide +kernel
theorem d1_4 : decode prog_12_method_10_code 4 = .ok (.aload_n 2, 1) := by decide +kernel
theorem d1_5 : decode prog_12_method_10_code 5 = .ok (.arraylength, 1) := by decide +kernel
theorem d1_6 : decode prog_12_method_10_code 6 = .ok (.istore_n 3, 1) := by decide +kernel
theorem d1_7 : decode prog_12_method_10_code 7 = .ok (.iconst 0, 1) := by decide +kernel
theorem d1_8 : decode prog_12_method_10_code 8 = .ok (.istore 4, 2) := by decide +kernel
theorem d1_10 : decode prog_12_method_10_code 10 = .ok (.iload 4, 2) := by decide +kernel
theorem d1_12 : decode prog_12_method_10_code 12 = .ok (.iload_n 3, 1) := by decide +kernel
theorem d1_13 : decode prog_12_method_10_code 13 = .ok (.if_icmp .ge 26, 3) := by decide +kernel
theorem d1_16 : decode prog_12_method_10_code 16 = .ok (.aload_n 2, 1) := by decide +kernel
theorem d1_17 : decode prog_12_method_10_code 17 = .ok (.iload 4, 2) := by decide +kernel
theorem d1_19 : decode prog_12_method_10_code 19 = .ok (.iaload, 1) := by decide +kernel
theorem d1_20 : decode prog_12_method_10_code 20 = .ok (.istore 5, 2) := by decide +kernel
theorem d1_22 : decode prog_12_method_10_code 22 = .ok (.iload 5, 2) := by decide +kernel
theorem d1_24 : decode prog_12_method_10_code 24 = .ok (.invokestatic 94, 3) := by decide +kernel
theorem d1_27 : decode prog_12_method_10_code 27 = .ok (.ifCond .eq 6, 3) := by decide +kernel
theorem d1_30 : decode prog_12_method_10_code 30 = .ok (.iinc 1 1, 3) := by decide +kernel
theorem d1_33 : decode prog_12_method_10_code 33 = .ok (.iinc 4 1, 3) := by decide +kernel
theorem d1_36 : decode prog_12_method_10_code 36 = .ok (.goto (-26), 3) := by decide +kernel
theorem d1_39 : decode prog_12_method_10_code 39 = .ok (.iload_n 1, 1) := by decide +kernel
theorem d1_40 : decode prog_12_method_10_code 40 = .ok (.ireturn, 1) := by decide +kernel
theorem pn_1 : plainName "com/example/kette/kette/EcmaPatternReader" = true := by first | (simp [plainName, overriddenIn]; done) | decide +kernel
theorem pd_1_0 : parseMethodDescriptor "(I)Z" = some ⟨[.int], some .boolean⟩ := by decide +kernel
theorem ef_1 (m : MethodId) (x0 : Addr) : entryFrame m #[(.ref x0)] 6 = mkF m 0 #[.val (.ref x0), .unset, .unset, .unset, .unset, .unset] [] := by first | (simp [entryFrame, mkF, argsToLocals, Value.category]; done) | rfl
set_option maxRecDepth 65536 in
set_option maxHeartbeats 40000000 in
theorem rm1 (l : Launch) (Z : State) (az : Array Value) (hw : ∀ d ∈ tables_1, d.before az Z = true) (ws : List Jvm.Cond) (a0 : Addr) (kk : ClassId) (n : Int32) (vs : List Value) (xs : List Int32) (h0 : Heap) (n0 : Nat) (Z0 : n0 ≤ h0.size) (V_a0 : Arv Z h0 a0 kk .int n vs (.int (0 : Int32))) (hn : ¬ n < 0) (hln : xs.length = n.toNatClampNeg) (hxs : ∀ j, j < n.toNatClampNeg → vs.getD j (.int (0 : Int32)) = .int (xs.getD j 0)) :
    OCtr l Z (⟨"com/example/kette/kette/EcmaPatternReader", "countStates", "([I)I"⟩ : MethodName) prog_12_method_10_code 6 (some .int) ws ({ frames := 1, cells := 0, slots := 0, locals := 40 } : Room) #[(.ref a0)] h0 (OPure (some (.int (own_cnt xs))) h0 n0) := by
  refine OCtr.of (plainFor_of_name pn_1) ?_
  intro p e s m below meth c s₁ X0 hx hlk hZ hown0 hnm hby hml0 hret e0
  have hown : s.vm.findClass "com/example/kette/kette/EcmaPatternReader" = some m.cls := hown0
  have hml : c.maxLocals = 6 := hml0
  have N0 := Fr.nil n0
  refine OGo.step (fun t k => castTop (ef_1 m a0) k) ?_
  have lp : ∀ (rest : List Int32) (T0 : State) (locs : List Loc) (i cnt : Int32) (o5 : Slot), Stand p l e ({ frames := 1, cells := 0, slots := 0, locals := 40 } : Room) s m #[(.ref a0)] below meth c T0 locs 0 0 → T0.heap = h0 → Fr n0 locs → One o5 → ¬ i < 0 → i.toNatClampNeg + rest.length = n.toNatClampNeg → xs.drop i.toNatClampNeg = rest → OGo p e below s (OPure (some (.int (cnt + own_cnt rest))) h0 n0) ({ frames := 1, cells := 0, slots := 0, locals := 40 } : Room).cells ({ frames := 1, cells := 0, slots := 0, locals := 40 } : Room).slots (T0.setTop (mkF m 10 #[.val (.ref a0), .val (.int cnt), .val (.ref a0), .val (.int n), .val (.int i), o5] [])) := by
    have hn0 : ¬ n < 0 := hn
    intro rest
    induction rest with
    | nil =>
      intro T0 locs i cnt o5 Xl el Nl ho_o5 hi hk hd
      have hlt : ¬ (i < n) := by rw [own_nat hi hn]; simp only [List.length_nil] at hk; omega
      refine OGo.step (F' := T0.setTop (mkF m 40 #[.val (.ref a0), .val (.int cnt), .val (.ref a0), .val (.int n), .val (.int i), o5] [(.int cnt)])) (fun t kt => ?_) ?_
      · show Steps p.tables e below (T0.setTop (mkF m 10 #[.val (.ref a0), .val (.int cnt), .val (.ref a0), .val (.int n), .val (.int i), o5] [])) t
        refine XS.iload Xl.here hx rfl (hb hby d1_10) rfl ?_
        show Steps p.tables e below (T0.setTop (mkF m 12 #[.val (.ref a0), .val (.int cnt), .val (.ref a0), .val (.int n), .val (.int i), o5] [(.int i)])) t
        refine XS.iloadN Xl.here hx rfl (hb hby d1_12) rfl ?_
        show Steps p.tables e below (T0.setTop (mkF m 13 #[.val (.ref a0), .val (.int cnt), .val (.ref a0), .val (.int n), .val (.int i), o5] [(.int n), (.int i)])) t
        refine XS.icmpYes Xl.here hx rfl (pc0 := 13) (pc' := 39) rfl (hb hby d1_13) rfl (flt hlt).2.1 (by decide) (by decide) ?_
        show Steps p.tables e below (T0.setTop (mkF m 39 #[.val (.ref a0), .val (.int cnt), .val (.ref a0), .val (.int n), .val (.int i), o5] [])) t
        refine XS.iloadN Xl.here hx rfl (hb hby d1_39) rfl ?_
        exact kt
      refine OGo.retI Xl hx hlk hret (hb hby d1_40) ?_ (by decide) (by decide)
      exact ⟨(by simp [own_cnt]), Nl, el⟩
    | cons x rest ih =>
      intro T0 locs i cnt o5 Xl el Nl ho_o5 hi hk hd
      have hlt : i < n := by rw [own_nat hi hn]; simp only [List.length_cons] at hk; omega
      have hx0 : xs.getD i.toNatClampNeg 0 = x := by rw [List.getD_eq_getElem?_getD, ← List.head?_drop, hd]; rfl
      obtain ⟨hi2, hs2⟩ := own_inc hi hlt
      have hd2 : xs.drop (i + (1 : Int32)).toNatClampNeg = rest := by rw [hs2, ← List.drop_drop, hd]; rfl
      have hk2 : (i + (1 : Int32)).toNatClampNeg + rest.length = n.toNatClampNeg := by rw [hs2]; simp only [List.length_cons] at hk; omega
      refine OGo.step (F' := T0.setTop (mkF m 19 #[.val (.ref a0), .val (.int cnt), .val (.ref a0), .val (.int n), .val (.int i), o5] [(.int i), (.ref a0)])) (fun t kt => ?_) ?_
      · show Steps p.tables e below (T0.setTop (mkF m 10 #[.val (.ref a0), .val (.int cnt), .val (.ref a0), .val (.int n), .val (.int i), o5] [])) t
        refine XS.iload Xl.here hx rfl (hb hby d1_10) rfl ?_
        show Steps p.tables e below (T0.setTop (mkF m 12 #[.val (.ref a0), .val (.int cnt), .val (.ref a0), .val (.int n), .val (.int i), o5] [(.int i)])) t
        refine XS.iloadN Xl.here hx rfl (hb hby d1_12) rfl ?_
        show Steps p.tables e below (T0.setTop (mkF m 13 #[.val (.ref a0), .val (.int cnt), .val (.ref a0), .val (.int n), .val (.int i), o5] [(.int n), (.int i)])) t
        refine XS.icmpNo Xl.here hx rfl (hb hby d1_13) rfl (tlt hlt).2.1 ?_
        show Steps p.tables e below (T0.setTop (mkF m 16 #[.val (.ref a0), .val (.int cnt), .val (.ref a0), .val (.int n), .val (.int i), o5] [])) t
        refine XS.aloadN Xl.here hx rfl (hb hby d1_16) rfl rfl ?_
        show Steps p.tables e below (T0.setTop (mkF m 17 #[.val (.ref a0), .val (.int cnt), .val (.ref a0), .val (.int n), .val (.int i), o5] [(.ref a0)])) t
        refine XS.iload Xl.here hx rfl (hb hby d1_17) rfl ?_
        exact kt
      obtain ⟨cl1, Ar1, q1, S1, N1a, H1, G1⟩ := id (V_a0)
      have hin1 : ¬ (i < 0 ∨ cl1.slots.size ≤ (i).toNatClampNeg) := inb_of S1 ⟨hi, hlt⟩
      have hat1 : cl1.slots[(i).toNatClampNeg]? = some (.int x) := H1.at hin1 (by rw [hxs _ ((own_nat hi hn).mp hlt), hx0])
      refine OGo.step (F' := T0.setTop (mkF m 20 #[.val (.ref a0), .val (.int cnt), .val (.ref a0), .val (.int n), .val (.int i), o5] [(.int x)])) (fun t kt => ?_) ?_
      · show Steps p.tables e below (T0.setTop (mkF m 19 #[.val (.ref a0), .val (.int cnt), .val (.ref a0), .val (.int n), .val (.int i), o5] [(.int i), (.ref a0)])) t
        refine Xl.iaload hx (j := i) (v := (.int x)) (by rw [el]; exact Ar1.1) (State.isArrayOf_alike hZ.alike Ar1.2.1) Ar1.2.2 hin1 hat1 (g := (mkF m 19 #[.val (.ref a0), .val (.int cnt), .val (.ref a0), .val (.int n), .val (.int i), o5] [(.int i), (.ref a0)])) rfl rfl (hb hby d1_19) _ ?_
        exact kt
      refine OGo.step (F' := T0.setTop (mkF m 24 #[.val (.ref a0), .val (.int cnt), .val (.ref a0), .val (.int n), .val (.int i), .val (.int x)] [(.int x)])) (fun t kt => ?_) ?_
      · show Steps p.tables e below (T0.setTop (mkF m 20 #[.val (.ref a0), .val (.int cnt), .val (.ref a0), .val (.int n), .val (.int i), o5] [(.int x)])) t
        refine XS.istoreS Xl.here hx rfl (hb hby d1_20) rfl rfl ho_o5 ?_
        show Steps p.tables e below (T0.setTop (mkF m 22 #[.val (.ref a0), .val (.int cnt), .val (.ref a0), .val (.int n), .val (.int i), .val (.int x)] [])) t
        refine XS.iload Xl.here hx rfl (hb hby d1_22) rfl ?_
        exact kt
      refine OGo.callS Xl hx hZ (y := (⟨"com/example/kette/kette/EcmaPatternReader", "makesState", "(I)Z"⟩ : MethodName)) hown (own_wd hw 10 rfl) (own_wd hw 11 rfl) (own_wd hw 4 rfl) (own_wd hw 12 rfl) (by decide) (rm3 l Z az hw [] x h0 n0 Z0) (W := 0) (by decide) (by decide) (g := (mkF m 24 #[.val (.ref a0), .val (.int cnt), .val (.ref a0), .val (.int n), .val (.int i), .val (.int x)] [(.int x)])) rfl (by rw [hml]; rfl) (argsL := [(.int x)]) (rest := []) (lenOf pd_1_0 rfl) rfl (by show 2 * 0 + _ ≤ _; exact Nat.le_of_eq rfl) (hb hby d1_24) rfl el (by decide) (by decide) ?_
      rintro _ T2 L2 X2 ⟨rfl, Nq2, e2⟩
      have N2 := Fr.app Nl Nq2
      show OGo _ _ _ _ _ _ _ (T2.setTop (mkF m 27 #[.val (.ref a0), .val (.int cnt), .val (.ref a0), .val (.int n), .val (.int i), .val (.int x)] [(.int (f3 x))]))
      by_cases hc27 : (f3 x) = (0 : Int32)
      · refine OGo.step (F' := T2.setTop (mkF m 33 #[.val (.ref a0), .val (.int cnt), .val (.ref a0), .val (.int n), .val (.int i), .val (.int x)] [])) (fun t kt => ?_) ?_
        · show Steps p.tables e below (T2.setTop (mkF m 27 #[.val (.ref a0), .val (.int cnt), .val (.ref a0), .val (.int n), .val (.int i), .val (.int x)] [(.int (f3 x))])) t
          refine XS.ifYes X2.here hx rfl (pc0 := 27) (pc' := 33) rfl (hb hby d1_27) rfl ((if0 _ _).trans (teq hc27).1) (by decide) (by decide) ?_
          exact kt
        refine OGo.step (F' := T2.setTop (mkF m 10 #[.val (.ref a0), .val (.int cnt), .val (.ref a0), .val (.int n), .val (.int (i + (1 : Int32))), .val (.int x)] [])) (fun t kt => ?_) ?_
        · show Steps p.tables e below (T2.setTop (mkF m 33 #[.val (.ref a0), .val (.int cnt), .val (.ref a0), .val (.int n), .val (.int i), .val (.int x)] [])) t
          refine XS.iinc X2.here hx rfl (hb hby d1_33) rfl (l' := #[.val (.ref a0), .val (.int cnt), .val (.ref a0), .val (.int n), .val (.int (i + (1 : Int32))), .val (.int x)]) rfl ?_
          show Steps p.tables e below (T2.setTop (mkF m 36 #[.val (.ref a0), .val (.int cnt), .val (.ref a0), .val (.int n), .val (.int (i + (1 : Int32))), .val (.int x)] [])) t
          refine XS.goto X2.here hx rfl (pc0 := 36) (pc' := 10) rfl (hb hby d1_36) (by decide) (by decide) ?_
          exact kt
        have q := ih T2 _ (i + (1 : Int32)) cnt (.val (.int x)) X2 e2 N2 (One.val rfl) hi2 hk2 hd2
        rw [show cnt + own_cnt rest = cnt + own_cnt (x :: rest) from by rw [own_cnt, if_pos hc27]; simp [Int32.add_assoc]] at q
        exact q
      · refine OGo.step (F' := T2.setTop (mkF m 30 #[.val (.ref a0), .val (.int cnt), .val (.ref a0), .val (.int n), .val (.int i), .val (.int x)] [])) (fun t kt => ?_) ?_
        · show Steps p.tables e below (T2.setTop (mkF m 27 #[.val (.ref a0), .val (.int cnt), .val (.ref a0), .val (.int n), .val (.int i), .val (.int x)] [(.int (f3 x))])) t
          refine XS.ifNo X2.here hx rfl (hb hby d1_27) rfl ((if0 _ _).trans (feq hc27).1) ?_
          exact kt
        refine OGo.step (F' := T2.setTop (mkF m 10 #[.val (.ref a0), .val (.int (cnt + (1 : Int32))), .val (.ref a0), .val (.int n), .val (.int (i + (1 : Int32))), .val (.int x)] [])) (fun t kt => ?_) ?_
        · show Steps p.tables e below (T2.setTop (mkF m 30 #[.val (.ref a0), .val (.int cnt), .val (.ref a0), .val (.int n), .val (.int i), .val (.int x)] [])) t
          refine XS.iinc X2.here hx rfl (hb hby d1_30) rfl (l' := #[.val (.ref a0), .val (.int (cnt + (1 : Int32))), .val (.ref a0), .val (.int n), .val (.int i), .val (.int x)]) rfl ?_
          show Steps p.tables e below (T2.setTop (mkF m 33 #[.val (.ref a0), .val (.int (cnt + (1 : Int32))), .val (.ref a0), .val (.int n), .val (.int i), .val (.int x)] [])) t
          refine XS.iinc X2.here hx rfl (hb hby d1_33) rfl (l' := #[.val (.ref a0), .val (.int (cnt + (1 : Int32))), .val (.ref a0), .val (.int n), .val (.int (i + (1 : Int32))), .val (.int x)]) rfl ?_
          show Steps p.tables e below (T2.setTop (mkF m 36 #[.val (.ref a0), .val (.int (cnt + (1 : Int32))), .val (.ref a0), .val (.int n), .val (.int (i + (1 : Int32))), .val (.int x)] [])) t
          refine XS.goto X2.here hx rfl (pc0 := 36) (pc' := 10) rfl (hb hby d1_36) (by decide) (by decide) ?_
          exact kt
        have q := ih T2 _ (i + (1 : Int32)) (cnt + (1 : Int32)) (.val (.int x)) X2 e2 N2 (One.val rfl) hi2 hk2 hd2
        rw [show (cnt + (1 : Int32)) + own_cnt rest = cnt + own_cnt (x :: rest) from by rw [own_cnt, if_neg hc27]; simp [Int32.add_assoc]] at q
        exact q
  refine OGo.step (F' := s₁.setTop (mkF m 5 #[.val (.ref a0), .val (.int (0 : Int32)), .val (.ref a0), .unset, .unset, .unset] [(.ref a0)])) (fun t kt => ?_) ?_
  · show Steps p.tables e below (s₁.setTop (mkF m 0 #[.val (.ref a0), .unset, .unset, .unset, .unset, .unset] [])) t
    refine XS.iconst X0.here hx rfl (hb hby d1_0) ?_
    show Steps p.tables e below (s₁.setTop (mkF m 1 #[.val (.ref a0), .unset, .unset, .unset, .unset, .unset] [(.int (0 : Int32))])) t
    refine XS.istoreN X0.here hx rfl (hb hby d1_1) rfl (l' := #[.val (.ref a0), .val (.int (0 : Int32)), .unset, .unset, .unset, .unset]) rfl ?_
    show Steps p.tables e below (s₁.setTop (mkF m 2 #[.val (.ref a0), .val (.int (0 : Int32)), .unset, .unset, .unset, .unset] [])) t
    refine XS.aloadN X0.here hx rfl (hb hby d1_2) rfl rfl ?_
    show Steps p.tables e below (s₁.setTop (mkF m 3 #[.val (.ref a0), .val (.int (0 : Int32)), .unset, .unset, .unset, .unset] [(.ref a0)])) t
    refine XS.astoreN X0.here hx rfl (hb hby d1_3) rfl rfl (l' := #[.val (.ref a0), .val (.int (0 : Int32)), .val (.ref a0), .unset, .unset, .unset]) rfl ?_
    show Steps p.tables e below (s₁.setTop (mkF m 4 #[.val (.ref a0), .val (.int (0 : Int32)), .val (.ref a0), .unset, .unset, .unset] [])) t
    refine XS.aloadN X0.here hx rfl (hb hby d1_4) rfl rfl ?_
    exact kt
  obtain ⟨cl3, Ar3, q3, S3, N3a, H3, G3⟩ := id (V_a0)
  refine OGo.step (F' := s₁.setTop (mkF m 6 #[.val (.ref a0), .val (.int (0 : Int32)), .val (.ref a0), .unset, .unset, .unset] [(.int n)])) (fun t kt => ?_) ?_
  · show Steps p.tables e below (s₁.setTop (mkF m 5 #[.val (.ref a0), .val (.int (0 : Int32)), .val (.ref a0), .unset, .unset, .unset] [(.ref a0)])) t
    refine X0.arraylength hx (by rw [e0]; exact Ar3.1) (State.isArrayOf_alike hZ.alike Ar3.2.1) (g := (mkF m 5 #[.val (.ref a0), .val (.int (0 : Int32)), .val (.ref a0), .unset, .unset, .unset] [(.ref a0)])) rfl rfl (hb hby d1_5) _ ?_
    rw [len_of S3 N3a]
    exact kt
  refine OGo.step (F' := s₁.setTop (mkF m 10 #[.val (.ref a0), .val (.int (0 : Int32)), .val (.ref a0), .val (.int n), .val (.int (0 : Int32)), .unset] [])) (fun t kt => ?_) ?_
  · show Steps p.tables e below (s₁.setTop (mkF m 6 #[.val (.ref a0), .val (.int (0 : Int32)), .val (.ref a0), .unset, .unset, .unset] [(.int n)])) t
    refine XS.istoreN X0.here hx rfl (hb hby d1_6) rfl (l' := #[.val (.ref a0), .val (.int (0 : Int32)), .val (.ref a0), .val (.int n), .unset, .unset]) rfl ?_
    show Steps p.tables e below (s₁.setTop (mkF m 7 #[.val (.ref a0), .val (.int (0 : Int32)), .val (.ref a0), .val (.int n), .unset, .unset] [])) t
    refine XS.iconst X0.here hx rfl (hb hby d1_7) ?_
    show Steps p.tables e below (s₁.setTop (mkF m 8 #[.val (.ref a0), .val (.int (0 : Int32)), .val (.ref a0), .val (.int n), .unset, .unset] [(.int (0 : Int32))])) t
    refine XS.istore X0.here hx rfl (hb hby d1_8) rfl (l' := #[.val (.ref a0), .val (.int (0 : Int32)), .val (.ref a0), .val (.int n), .val (.int (0 : Int32)), .unset]) rfl ?_
    exact kt
  have q := lp xs s₁ _ (0 : Int32) (0 : Int32) .unset X0 e0 N0 One.u (by decide) (by rw [show (0 : Int32).toNatClampNeg = 0 from rfl]; omega) rfl
  rw [show (0 : Int32) + own_cnt xs = own_cnt xs from Int32.zero_add _] at q
  exact q
theorem own_len (x : Int32) : ¬ ((x &&& (2147483647 : Int32)) % (6 : Int32)) < 0 ∧ ((x &&& (2147483647 : Int32)) % (6 : Int32)).toNatClampNeg ≤ 5 := by
  have h0 := (c_andS x (2147483647 : Int32)).2.2 (by decide)
  generalize x &&& (2147483647 : Int32) = w at *
  have e := (c_irem w (6 : Int32) 6 rfl).1 h0
  simp only [Int32.lt_iff_toInt_lt, Int32.toNatClampNeg, e, Int32.reduceToInt]
  omega
theorem own_dn {x a b : Int32} (h : ¬ (a < x)) (q : a < b) : ¬ (b < x) := by rw [Int32.lt_iff_toInt_lt] at *; omega
theorem own_at (x : Int32) (k : Nat) (h1 : k = 0 ∨ ((k - 1 : Nat).toInt32 < x)) (h0 : ¬ x < 0) (h2 : ¬ (k.toInt32 < x)) (hk : k < 6) : x.toNatClampNeg = k := by
  have e1 : k.toInt32.toInt = k := len_toInt (by omega)
  have e2 : (k - 1 : Nat).toInt32.toInt = (k - 1 : Nat) := len_toInt (by omega)
  rw [Int32.lt_iff_toInt_lt] at h0 h2
  rcases h1 with rfl | h1
  · simp only [Int32.toNatClampNeg, Int32.reduceToInt] at *; omega
  · rw [Int32.lt_iff_toInt_lt] at h1; simp only [Int32.toNatClampNeg, Int32.reduceToInt, e1, e2] at *; omega
/-! body 0: com/example/kette/kette/EcmaPatternReaderCountStatesPinLaw.law:(IIIIII)Z -/
theorem pn_0 : plainName "com/example/kette/kette/EcmaPatternReaderCountStatesPinLaw" = true := by first | (simp [plainName, overriddenIn]; done) | decide +kernel
theorem pd_0_0 : parseMethodDescriptor "(I)I" = some ⟨[.int], some .int⟩ := by decide +kernel
theorem pd_0_1 : parseMethodDescriptor "([I)I" = some ⟨[(.array .int)], some .int⟩ := by decide +kernel
theorem ef_0 (m : MethodId) (x0 : Int32) (x1 : Int32) (x2 : Int32) (x3 : Int32) (x4 : Int32) (x5 : Int32) : entryFrame m #[(.int x0), (.int x1), (.int x2), (.int x3), (.int x4), (.int x5)] maxLocals = mkF m 0 #[.val (.int x0), .val (.int x1), .val (.int x2), .val (.int x3), .val (.int x4), .val (.int x5), .unset, .unset, .unset] [] := by first | (simp [entryFrame, mkF, argsToLocals, Value.category, maxLocals]; done) | rfl
def f0 (p0 : Int32) (p1 : Int32) (p2 : Int32) (p3 : Int32) (p4 : Int32) (p5 : Int32) : Int32 :=
  if (0 : Int32) < ((p0 &&& (2147483647 : Int32)) % (6 : Int32)) then (if (1 : Int32) < ((p0 &&& (2147483647 : Int32)) % (6 : Int32)) then (if (2 : Int32) < ((p0 &&& (2147483647 : Int32)) % (6 : Int32)) then (if (3 : Int32) < ((p0 &&& (2147483647 : Int32)) % (6 : Int32)) then (if (4 : Int32) < ((p0 &&& (2147483647 : Int32)) % (6 : Int32)) then (if (own_cnt [p1, p2, p3, p4, p5]) = ((((((0 : Int32) + (f2 p1)) + (f2 p2)) + (f2 p3)) + (f2 p4)) + (f2 p5)) then (1 : Int32)
            else (0 : Int32))
          else if (own_cnt [p1, p2, p3, p4]) = (((((0 : Int32) + (f2 p1)) + (f2 p2)) + (f2 p3)) + (f2 p4)) then (1 : Int32)
            else (0 : Int32))
        else if (own_cnt [p1, p2, p3]) = ((((0 : Int32) + (f2 p1)) + (f2 p2)) + (f2 p3)) then (1 : Int32)
          else (0 : Int32))
      else if (own_cnt [p1, p2]) = (((0 : Int32) + (f2 p1)) + (f2 p2)) then (1 : Int32)
        else (0 : Int32))
    else if (own_cnt [p1]) = ((0 : Int32) + (f2 p1)) then (1 : Int32)
      else (0 : Int32))
  else if (own_cnt []) = (0 : Int32) then (1 : Int32)
    else (0 : Int32)
theorem fb0 (p0 : Int32) (p1 : Int32) (p2 : Int32) (p3 : Int32) (p4 : Int32) (p5 : Int32) : nar .boolean (f0 p0 p1 p2 p3 p4 p5) = (f0 p0 p1 p2 p3 p4 p5) := by
  unfold f0
  repeat' split
  all_goals first | rfl | decide
def Q0 (Z : State) (p0 : Int32) (p1 : Int32) (p2 : Int32) (p3 : Int32) (p4 : Int32) (p5 : Int32) (h0 : Heap) (n0 : Nat) (v : Option Value) (h : Heap) (L : List Loc) : Prop := v = some (.int (f0 p0 p1 p2 p3 p4 p5)) ∧ Fr n0 L ∧ Keep h0 h []
set_option maxRecDepth 65536 in
set_option maxHeartbeats 40000000 in
theorem rm0 (l : Launch) (Z : State) (az : Array Value) (hw : ∀ d ∈ tables_1, d.before az Z = true) (ws : List Jvm.Cond) (p0 : Int32) (p1 : Int32) (p2 : Int32) (p3 : Int32) (p4 : Int32) (p5 : Int32) (h0 : Heap) (n0 : Nat) (Z0 : n0 ≤ h0.size) :
    OCtr l Z x code maxLocals ret ws room_1 #[(.int p0), (.int p1), (.int p2), (.int p3), (.int p4), (.int p5)] h0 (Q0 Z p0 p1 p2 p3 p4 p5 h0 n0) := by
  refine OCtr.of (plainFor_of_name pn_0) ?_
  intro p e s m below meth c s₁ X0 hx hlk hZ hown0 hnm hby hml0 hret e0
  have hown : s.vm.findClass "com/example/kette/kette/EcmaPatternReaderCountStatesPinLaw" = some m.cls := hown0
  have hml : c.maxLocals = 9 := hml0
  have N0 := Fr.nil n0
  refine OGo.step (fun t k => castTop (ef_0 m p0 p1 p2 p3 p4 p5) k) ?_
  refine OGo.step (F' := s₁.setTop (mkF m 11 #[.val (.int p0), .val (.int p1), .val (.int p2), .val (.int p3), .val (.int p4), .val (.int p5), .val (.int ((p0 &&& (2147483647 : Int32)) % (6 : Int32))), .unset, .unset] [(.int ((p0 &&& (2147483647 : Int32)) % (6 : Int32)))])) (fun t kt => ?_) ?_
  · show Steps p.tables e below (s₁.setTop (mkF m 0 #[.val (.int p0), .val (.int p1), .val (.int p2), .val (.int p3), .val (.int p4), .val (.int p5), .unset, .unset, .unset] [])) t
    refine XS.iloadN X0.here hx rfl (hb hby at_0) rfl ?_
    show Steps p.tables e below (s₁.setTop (mkF m 1 #[.val (.int p0), .val (.int p1), .val (.int p2), .val (.int p3), .val (.int p4), .val (.int p5), .unset, .unset, .unset] [(.int p0)])) t
    refine X0.ldcInt hx hown (mvT hZ (own_wd hw 0 rfl)) (g := (mkF m 1 #[.val (.int p0), .val (.int p1), .val (.int p2), .val (.int p3), .val (.int p4), .val (.int p5), .unset, .unset, .unset] [(.int p0)])) rfl (hb hby at_1) _ ?_
    show Steps p.tables e below (s₁.setTop (mkF m 3 #[.val (.int p0), .val (.int p1), .val (.int p2), .val (.int p3), .val (.int p4), .val (.int p5), .unset, .unset, .unset] [(.int (2147483647 : Int32)), (.int p0)])) t
    refine XS.iand X0.here hx rfl (hb hby at_3) rfl ?_
    show Steps p.tables e below (s₁.setTop (mkF m 4 #[.val (.int p0), .val (.int p1), .val (.int p2), .val (.int p3), .val (.int p4), .val (.int p5), .unset, .unset, .unset] [(.int (p0 &&& (2147483647 : Int32)))])) t
    refine XS.bipush X0.here hx rfl (hb hby at_4) ?_
    show Steps p.tables e below (s₁.setTop (mkF m 6 #[.val (.int p0), .val (.int p1), .val (.int p2), .val (.int p3), .val (.int p4), .val (.int p5), .unset, .unset, .unset] [(.int (6 : Int32)), (.int (p0 &&& (2147483647 : Int32)))])) t
    refine Jvm.RoadKit.iremM (g := (mkF m 6 #[.val (.int p0), .val (.int p1), .val (.int p2), .val (.int p3), .val (.int p4), .val (.int p5), .unset, .unset, .unset] [(.int (6 : Int32)), (.int (p0 &&& (2147483647 : Int32)))])) X0 hx rfl (hb hby at_6) rfl (by decide) ?_
    show Steps p.tables e below (s₁.setTop (mkF m 7 #[.val (.int p0), .val (.int p1), .val (.int p2), .val (.int p3), .val (.int p4), .val (.int p5), .unset, .unset, .unset] [(.int ((p0 &&& (2147483647 : Int32)) % (6 : Int32)))])) t
    refine XS.istore X0.here hx rfl (hb hby at_7) rfl (l' := #[.val (.int p0), .val (.int p1), .val (.int p2), .val (.int p3), .val (.int p4), .val (.int p5), .val (.int ((p0 &&& (2147483647 : Int32)) % (6 : Int32))), .unset, .unset]) rfl ?_
    show Steps p.tables e below (s₁.setTop (mkF m 9 #[.val (.int p0), .val (.int p1), .val (.int p2), .val (.int p3), .val (.int p4), .val (.int p5), .val (.int ((p0 &&& (2147483647 : Int32)) % (6 : Int32))), .unset, .unset] [])) t
    refine XS.iload X0.here hx rfl (hb hby at_9) rfl ?_
    exact kt
  obtain ⟨T1, h1, k1, X1, e1, E1, A1, st1⟩ := newP X0 hx hZ (own_wd hw 1 rfl) e0 (g := (mkF m 11 #[.val (.int p0), .val (.int p1), .val (.int p2), .val (.int p3), .val (.int p4), .val (.int p5), .val (.int ((p0 &&& (2147483647 : Int32)) % (6 : Int32))), .unset, .unset] [(.int ((p0 &&& (2147483647 : Int32)) % (6 : Int32)))])) rfl (hb hby at_11) rfl (own_len p0).1 (cap := 5) (own_len p0).2 (by decide) (by decide) (by decide)
  obtain ⟨b1, g1⟩ : ∃ z, z = h0.size := ⟨_, rfl⟩
  rw [← g1] at A1 st1
  have sz_b1 : h0.size ≤ b1 := Nat.le_trans (Keep.refl h0 []).1 (Nat.le_of_eq g1.symm)
  have gn_b1 : n0 ≤ b1 := Nat.le_trans Z0 sz_b1
  have KC1 : Keep h0 h1 [] := (Keep.refl h0 []).ext E1
  have V1 : Arv Z h1 b1 k1 .int ((p0 &&& (2147483647 : Int32)) % (6 : Int32)) [(.int (0 : Int32)), (.int (0 : Int32)), (.int (0 : Int32)), (.int (0 : Int32)), (.int (0 : Int32))] (.int (0 : Int32)) := (Arv.new A1 (own_len p0).1).pad (pad_rep [] (.int (0 : Int32)) 5)
  refine OGo.step st1 ?_
  show OGo _ _ _ _ _ _ _ (T1.setTop (mkF m 13 #[.val (.int p0), .val (.int p1), .val (.int p2), .val (.int p3), .val (.int p4), .val (.int p5), .val (.int ((p0 &&& (2147483647 : Int32)) % (6 : Int32))), .unset, .unset] [(.ref b1)]))
  refine OGo.step (F' := T1.setTop (mkF m 20 #[.val (.int p0), .val (.int p1), .val (.int p2), .val (.int p3), .val (.int p4), .val (.int p5), .val (.int ((p0 &&& (2147483647 : Int32)) % (6 : Int32))), .val (.ref b1), .val (.int (0 : Int32))] [(.int ((p0 &&& (2147483647 : Int32)) % (6 : Int32)))])) (fun t kt => ?_) ?_
  · show Steps p.tables e below (T1.setTop (mkF m 13 #[.val (.int p0), .val (.int p1), .val (.int p2), .val (.int p3), .val (.int p4), .val (.int p5), .val (.int ((p0 &&& (2147483647 : Int32)) % (6 : Int32))), .unset, .unset] [(.ref b1)])) t
    refine XS.astore X1.here hx rfl (hb hby at_13) rfl rfl (l' := #[.val (.int p0), .val (.int p1), .val (.int p2), .val (.int p3), .val (.int p4), .val (.int p5), .val (.int ((p0 &&& (2147483647 : Int32)) % (6 : Int32))), .val (.ref b1), .unset]) rfl ?_
    show Steps p.tables e below (T1.setTop (mkF m 15 #[.val (.int p0), .val (.int p1), .val (.int p2), .val (.int p3), .val (.int p4), .val (.int p5), .val (.int ((p0 &&& (2147483647 : Int32)) % (6 : Int32))), .val (.ref b1), .unset] [])) t
    refine XS.iconst X1.here hx rfl (hb hby at_15) ?_
    show Steps p.tables e below (T1.setTop (mkF m 16 #[.val (.int p0), .val (.int p1), .val (.int p2), .val (.int p3), .val (.int p4), .val (.int p5), .val (.int ((p0 &&& (2147483647 : Int32)) % (6 : Int32))), .val (.ref b1), .unset] [(.int (0 : Int32))])) t
    refine XS.istore X1.here hx rfl (hb hby at_16) rfl (l' := #[.val (.int p0), .val (.int p1), .val (.int p2), .val (.int p3), .val (.int p4), .val (.int p5), .val (.int ((p0 &&& (2147483647 : Int32)) % (6 : Int32))), .val (.ref b1), .val (.int (0 : Int32))]) rfl ?_
    show Steps p.tables e below (T1.setTop (mkF m 18 #[.val (.int p0), .val (.int p1), .val (.int p2), .val (.int p3), .val (.int p4), .val (.int p5), .val (.int ((p0 &&& (2147483647 : Int32)) % (6 : Int32))), .val (.ref b1), .val (.int (0 : Int32))] [])) t
    refine XS.iload X1.here hx rfl (hb hby at_18) rfl ?_
    exact kt
  by_cases hc20 : (0 : Int32) < ((p0 &&& (2147483647 : Int32)) % (6 : Int32))
  · refine OGo.step (F' := T1.setTop (mkF m 23 #[.val (.int p0), .val (.int p1), .val (.int p2), .val (.int p3), .val (.int p4), .val (.int p5), .val (.int ((p0 &&& (2147483647 : Int32)) % (6 : Int32))), .val (.ref b1), .val (.int (0 : Int32))] [])) (fun t kt => ?_) ?_
    · show Steps p.tables e below (T1.setTop (mkF m 20 #[.val (.int p0), .val (.int p1), .val (.int p2), .val (.int p3), .val (.int p4), .val (.int p5), .val (.int ((p0 &&& (2147483647 : Int32)) % (6 : Int32))), .val (.ref b1), .val (.int (0 : Int32))] [(.int ((p0 &&& (2147483647 : Int32)) % (6 : Int32)))])) t
      refine XS.ifNo X1.here hx rfl (hb hby at_20) rfl ((if0 _ _).trans (tlt hc20).2.2.2) ?_
      exact kt
    refine OGo.step (F' := T1.setTop (mkF m 27 #[.val (.int p0), .val (.int p1), .val (.int p2), .val (.int p3), .val (.int p4), .val (.int p5), .val (.int ((p0 &&& (2147483647 : Int32)) % (6 : Int32))), .val (.ref b1), .val (.int (0 : Int32))] [(.int p1), (.int (0 : Int32)), (.ref b1)])) (fun t kt => ?_) ?_
    · show Steps p.tables e below (T1.setTop (mkF m 23 #[.val (.int p0), .val (.int p1), .val (.int p2), .val (.int p3), .val (.int p4), .val (.int p5), .val (.int ((p0 &&& (2147483647 : Int32)) % (6 : Int32))), .val (.ref b1), .val (.int (0 : Int32))] [])) t
      refine XS.aload X1.here hx rfl (hb hby at_23) rfl rfl ?_
      show Steps p.tables e below (T1.setTop (mkF m 25 #[.val (.int p0), .val (.int p1), .val (.int p2), .val (.int p3), .val (.int p4), .val (.int p5), .val (.int ((p0 &&& (2147483647 : Int32)) % (6 : Int32))), .val (.ref b1), .val (.int (0 : Int32))] [(.ref b1)])) t
      refine XS.iconst X1.here hx rfl (hb hby at_25) ?_
      show Steps p.tables e below (T1.setTop (mkF m 26 #[.val (.int p0), .val (.int p1), .val (.int p2), .val (.int p3), .val (.int p4), .val (.int p5), .val (.int ((p0 &&& (2147483647 : Int32)) % (6 : Int32))), .val (.ref b1), .val (.int (0 : Int32))] [(.int (0 : Int32)), (.ref b1)])) t
      refine XS.iloadN X1.here hx rfl (hb hby at_26) rfl ?_
      exact kt
    obtain ⟨cl2, Ar2, q2, S2, N2a, H2, G2⟩ := id (V1)
    have hin2 : ¬ ((0 : Int32) < 0 ∨ cl2.slots.size ≤ ((0 : Int32)).toNatClampNeg) := inb_of S2 ⟨by decide, hc20⟩
    obtain ⟨T2, h2, X2, e2, W2, st2⟩ := stI X1 hx hZ e1 Ar2 (j := (0 : Int32)) hin2 (g := (mkF m 27 #[.val (.int p0), .val (.int p1), .val (.int p2), .val (.int p3), .val (.int p4), .val (.int p5), .val (.int ((p0 &&& (2147483647 : Int32)) % (6 : Int32))), .val (.ref b1), .val (.int (0 : Int32))] [(.int p1), (.int (0 : Int32)), (.ref b1)])) rfl rfl (hb hby at_27)
    have V2 : Arv Z h2 b1 k1 .int ((p0 &&& (2147483647 : Int32)) % (6 : Int32)) [(.int p1), (.int (0 : Int32)), (.int (0 : Int32)), (.int (0 : Int32)), (.int (0 : Int32))] (.int (0 : Int32)) := Arv.set Ar2 q2 S2 N2a H2 G2 rfl W2 0 rfl (Nat.le_of_ble_eq_true rfl)
    have KC2 : Keep h0 h2 [] := KC1.wr W2 (Or.inr sz_b1)
    have N2 := Fr.snoc X2 N0 gn_b1
    refine OGo.step st2 ?_
    show OGo _ _ _ _ _ _ _ (T2.setTop (mkF m 28 #[.val (.int p0), .val (.int p1), .val (.int p2), .val (.int p3), .val (.int p4), .val (.int p5), .val (.int ((p0 &&& (2147483647 : Int32)) % (6 : Int32))), .val (.ref b1), .val (.int (0 : Int32))] []))
    refine OGo.step (F' := T2.setTop (mkF m 31 #[.val (.int p0), .val (.int p1), .val (.int p2), .val (.int p3), .val (.int p4), .val (.int p5), .val (.int ((p0 &&& (2147483647 : Int32)) % (6 : Int32))), .val (.ref b1), .val (.int (0 : Int32))] [(.int p1), (.int (0 : Int32))])) (fun t kt => ?_) ?_
    · show Steps p.tables e below (T2.setTop (mkF m 28 #[.val (.int p0), .val (.int p1), .val (.int p2), .val (.int p3), .val (.int p4), .val (.int p5), .val (.int ((p0 &&& (2147483647 : Int32)) % (6 : Int32))), .val (.ref b1), .val (.int (0 : Int32))] [])) t
      refine XS.iload X2.here hx rfl (hb hby at_28) rfl ?_
      show Steps p.tables e below (T2.setTop (mkF m 30 #[.val (.int p0), .val (.int p1), .val (.int p2), .val (.int p3), .val (.int p4), .val (.int p5), .val (.int ((p0 &&& (2147483647 : Int32)) % (6 : Int32))), .val (.ref b1), .val (.int (0 : Int32))] [(.int (0 : Int32))])) t
      refine XS.iloadN X2.here hx rfl (hb hby at_30) rfl ?_
      exact kt
    refine OGo.callS X2 hx hZ (y := (⟨"com/example/kette/kette/EcmaPatternReaderCountStatesPinLaw", "makes", "(I)I"⟩ : MethodName)) hown (own_wd hw 6 rfl) (own_wd hw 7 rfl) (own_wd hw 8 rfl) (own_wd hw 9 rfl) (by decide) (rm2 l Z az hw [] p1 h2 n0 (Nat.le_trans Z0 KC2.1)) (W := 1) (by decide) (by decide) (g := (mkF m 31 #[.val (.int p0), .val (.int p1), .val (.int p2), .val (.int p3), .val (.int p4), .val (.int p5), .val (.int ((p0 &&& (2147483647 : Int32)) % (6 : Int32))), .val (.ref b1), .val (.int (0 : Int32))] [(.int p1), (.int (0 : Int32))])) rfl (by rw [hml]; rfl) (argsL := [(.int p1)]) (rest := [(.int (0 : Int32))]) (lenOf pd_0_0 rfl) rfl (by show 2 * 0 + _ ≤ _; exact Nat.le_of_eq rfl) (hb hby at_31) rfl e2 (by decide) (by decide) ?_
    rintro _ T3 L3 X3 ⟨rfl, Nq3, e3⟩
    have N3 := Fr.app N2 Nq3
    show OGo _ _ _ _ _ _ _ (T3.setTop (mkF m 34 #[.val (.int p0), .val (.int p1), .val (.int p2), .val (.int p3), .val (.int p4), .val (.int p5), .val (.int ((p0 &&& (2147483647 : Int32)) % (6 : Int32))), .val (.ref b1), .val (.int (0 : Int32))] [(.int (f2 p1)), (.int (0 : Int32))]))
    refine OGo.step (F' := T3.setTop (mkF m 40 #[.val (.int p0), .val (.int p1), .val (.int p2), .val (.int p3), .val (.int p4), .val (.int p5), .val (.int ((p0 &&& (2147483647 : Int32)) % (6 : Int32))), .val (.ref b1), .val (.int ((0 : Int32) + (f2 p1)))] [(.int (1 : Int32)), (.int ((p0 &&& (2147483647 : Int32)) % (6 : Int32)))])) (fun t kt => ?_) ?_
    · show Steps p.tables e below (T3.setTop (mkF m 34 #[.val (.int p0), .val (.int p1), .val (.int p2), .val (.int p3), .val (.int p4), .val (.int p5), .val (.int ((p0 &&& (2147483647 : Int32)) % (6 : Int32))), .val (.ref b1), .val (.int (0 : Int32))] [(.int (f2 p1)), (.int (0 : Int32))])) t
      refine XS.iadd X3.here hx rfl (hb hby at_34) rfl ?_
      show Steps p.tables e below (T3.setTop (mkF m 35 #[.val (.int p0), .val (.int p1), .val (.int p2), .val (.int p3), .val (.int p4), .val (.int p5), .val (.int ((p0 &&& (2147483647 : Int32)) % (6 : Int32))), .val (.ref b1), .val (.int (0 : Int32))] [(.int ((0 : Int32) + (f2 p1)))])) t
      refine XS.istore X3.here hx rfl (hb hby at_35) rfl (l' := #[.val (.int p0), .val (.int p1), .val (.int p2), .val (.int p3), .val (.int p4), .val (.int p5), .val (.int ((p0 &&& (2147483647 : Int32)) % (6 : Int32))), .val (.ref b1), .val (.int ((0 : Int32) + (f2 p1)))]) rfl ?_
      show Steps p.tables e below (T3.setTop (mkF m 37 #[.val (.int p0), .val (.int p1), .val (.int p2), .val (.int p3), .val (.int p4), .val (.int p5), .val (.int ((p0 &&& (2147483647 : Int32)) % (6 : Int32))), .val (.ref b1), .val (.int ((0 : Int32) + (f2 p1)))] [])) t
      refine XS.iload X3.here hx rfl (hb hby at_37) rfl ?_
      show Steps p.tables e below (T3.setTop (mkF m 39 #[.val (.int p0), .val (.int p1), .val (.int p2), .val (.int p3), .val (.int p4), .val (.int p5), .val (.int ((p0 &&& (2147483647 : Int32)) % (6 : Int32))), .val (.ref b1), .val (.int ((0 : Int32) + (f2 p1)))] [(.int ((p0 &&& (2147483647 : Int32)) % (6 : Int32)))])) t
      refine XS.iconst X3.here hx rfl (hb hby at_39) ?_
      exact kt
    by_cases hc40 : (1 : Int32) < ((p0 &&& (2147483647 : Int32)) % (6 : Int32))
    · refine OGo.step (F' := T3.setTop (mkF m 43 #[.val (.int p0), .val (.int p1), .val (.int p2), .val (.int p3), .val (.int p4), .val (.int p5), .val (.int ((p0 &&& (2147483647 : Int32)) % (6 : Int32))), .val (.ref b1), .val (.int ((0 : Int32) + (f2 p1)))] [])) (fun t kt => ?_) ?_
      · show Steps p.tables e below (T3.setTop (mkF m 40 #[.val (.int p0), .val (.int p1), .val (.int p2), .val (.int p3), .val (.int p4), .val (.int p5), .val (.int ((p0 &&& (2147483647 : Int32)) % (6 : Int32))), .val (.ref b1), .val (.int ((0 : Int32) + (f2 p1)))] [(.int (1 : Int32)), (.int ((p0 &&& (2147483647 : Int32)) % (6 : Int32)))])) t
        refine XS.icmpNo X3.here hx rfl (hb hby at_40) rfl (tlt hc40).2.2.2 ?_
        exact kt
      refine OGo.step (F' := T3.setTop (mkF m 47 #[.val (.int p0), .val (.int p1), .val (.int p2), .val (.int p3), .val (.int p4), .val (.int p5), .val (.int ((p0 &&& (2147483647 : Int32)) % (6 : Int32))), .val (.ref b1), .val (.int ((0 : Int32) + (f2 p1)))] [(.int p2), (.int (1 : Int32)), (.ref b1)])) (fun t kt => ?_) ?_
      · show Steps p.tables e below (T3.setTop (mkF m 43 #[.val (.int p0), .val (.int p1), .val (.int p2), .val (.int p3), .val (.int p4), .val (.int p5), .val (.int ((p0 &&& (2147483647 : Int32)) % (6 : Int32))), .val (.ref b1), .val (.int ((0 : Int32) + (f2 p1)))] [])) t
        refine XS.aload X3.here hx rfl (hb hby at_43) rfl rfl ?_
        show Steps p.tables e below (T3.setTop (mkF m 45 #[.val (.int p0), .val (.int p1), .val (.int p2), .val (.int p3), .val (.int p4), .val (.int p5), .val (.int ((p0 &&& (2147483647 : Int32)) % (6 : Int32))), .val (.ref b1), .val (.int ((0 : Int32) + (f2 p1)))] [(.ref b1)])) t
        refine XS.iconst X3.here hx rfl (hb hby at_45) ?_
        show Steps p.tables e below (T3.setTop (mkF m 46 #[.val (.int p0), .val (.int p1), .val (.int p2), .val (.int p3), .val (.int p4), .val (.int p5), .val (.int ((p0 &&& (2147483647 : Int32)) % (6 : Int32))), .val (.ref b1), .val (.int ((0 : Int32) + (f2 p1)))] [(.int (1 : Int32)), (.ref b1)])) t
        refine XS.iloadN X3.here hx rfl (hb hby at_46) rfl ?_
        exact kt
      obtain ⟨cl4, Ar4, q4, S4, N4a, H4, G4⟩ := id (V2)
      have hin4 : ¬ ((1 : Int32) < 0 ∨ cl4.slots.size ≤ ((1 : Int32)).toNatClampNeg) := inb_of S4 ⟨by decide, hc40⟩
      obtain ⟨T4, h4, X4, e4, W4, st4⟩ := stI X3 hx hZ e3 Ar4 (j := (1 : Int32)) hin4 (g := (mkF m 47 #[.val (.int p0), .val (.int p1), .val (.int p2), .val (.int p3), .val (.int p4), .val (.int p5), .val (.int ((p0 &&& (2147483647 : Int32)) % (6 : Int32))), .val (.ref b1), .val (.int ((0 : Int32) + (f2 p1)))] [(.int p2), (.int (1 : Int32)), (.ref b1)])) rfl rfl (hb hby at_47)
      have V4 : Arv Z h4 b1 k1 .int ((p0 &&& (2147483647 : Int32)) % (6 : Int32)) [(.int p1), (.int p2), (.int (0 : Int32)), (.int (0 : Int32)), (.int (0 : Int32))] (.int (0 : Int32)) := Arv.set Ar4 q4 S4 N4a H4 G4 rfl W4 1 rfl (Nat.le_of_ble_eq_true rfl)
      have KC4 : Keep h0 h4 [] := KC2.wr W4 (Or.inr sz_b1)
      have N4 := Fr.snoc X4 N3 gn_b1
      refine OGo.step st4 ?_
      show OGo _ _ _ _ _ _ _ (T4.setTop (mkF m 48 #[.val (.int p0), .val (.int p1), .val (.int p2), .val (.int p3), .val (.int p4), .val (.int p5), .val (.int ((p0 &&& (2147483647 : Int32)) % (6 : Int32))), .val (.ref b1), .val (.int ((0 : Int32) + (f2 p1)))] []))
      refine OGo.step (F' := T4.setTop (mkF m 51 #[.val (.int p0), .val (.int p1), .val (.int p2), .val (.int p3), .val (.int p4), .val (.int p5), .val (.int ((p0 &&& (2147483647 : Int32)) % (6 : Int32))), .val (.ref b1), .val (.int ((0 : Int32) + (f2 p1)))] [(.int p2), (.int ((0 : Int32) + (f2 p1)))])) (fun t kt => ?_) ?_
      · show Steps p.tables e below (T4.setTop (mkF m 48 #[.val (.int p0), .val (.int p1), .val (.int p2), .val (.int p3), .val (.int p4), .val (.int p5), .val (.int ((p0 &&& (2147483647 : Int32)) % (6 : Int32))), .val (.ref b1), .val (.int ((0 : Int32) + (f2 p1)))] [])) t
        refine XS.iload X4.here hx rfl (hb hby at_48) rfl ?_
        show Steps p.tables e below (T4.setTop (mkF m 50 #[.val (.int p0), .val (.int p1), .val (.int p2), .val (.int p3), .val (.int p4), .val (.int p5), .val (.int ((p0 &&& (2147483647 : Int32)) % (6 : Int32))), .val (.ref b1), .val (.int ((0 : Int32) + (f2 p1)))] [(.int ((0 : Int32) + (f2 p1)))])) t
        refine XS.iloadN X4.here hx rfl (hb hby at_50) rfl ?_
        exact kt
      refine OGo.callS X4 hx hZ (y := (⟨"com/example/kette/kette/EcmaPatternReaderCountStatesPinLaw", "makes", "(I)I"⟩ : MethodName)) hown (own_wd hw 6 rfl) (own_wd hw 7 rfl) (own_wd hw 8 rfl) (own_wd hw 9 rfl) (by decide) (rm2 l Z az hw [] p2 h4 n0 (Nat.le_trans Z0 KC4.1)) (W := 1) (by decide) (by decide) (g := (mkF m 51 #[.val (.int p0), .val (.int p1), .val (.int p2), .val (.int p3), .val (.int p4), .val (.int p5), .val (.int ((p0 &&& (2147483647 : Int32)) % (6 : Int32))), .val (.ref b1), .val (.int ((0 : Int32) + (f2 p1)))] [(.int p2), (.int ((0 : Int32) + (f2 p1)))])) rfl (by rw [hml]; rfl) (argsL := [(.int p2)]) (rest := [(.int ((0 : Int32) + (f2 p1)))]) (lenOf pd_0_0 rfl) rfl (by show 2 * 0 + _ ≤ _; exact Nat.le_of_eq rfl) (hb hby at_51) rfl e4 (by decide) (by decide) ?_
      rintro _ T5 L5 X5 ⟨rfl, Nq5, e5⟩
      have N5 := Fr.app N4 Nq5
      show OGo _ _ _ _ _ _ _ (T5.setTop (mkF m 54 #[.val (.int p0), .val (.int p1), .val (.int p2), .val (.int p3), .val (.int p4), .val (.int p5), .val (.int ((p0 &&& (2147483647 : Int32)) % (6 : Int32))), .val (.ref b1), .val (.int ((0 : Int32) + (f2 p1)))] [(.int (f2 p2)), (.int ((0 : Int32) + (f2 p1)))]))
      refine OGo.step (F' := T5.setTop (mkF m 60 #[.val (.int p0), .val (.int p1), .val (.int p2), .val (.int p3), .val (.int p4), .val (.int p5), .val (.int ((p0 &&& (2147483647 : Int32)) % (6 : Int32))), .val (.ref b1), .val (.int (((0 : Int32) + (f2 p1)) + (f2 p2)))] [(.int (2 : Int32)), (.int ((p0 &&& (2147483647 : Int32)) % (6 : Int32)))])) (fun t kt => ?_) ?_
      · show Steps p.tables e below (T5.setTop (mkF m 54 #[.val (.int p0), .val (.int p1), .val (.int p2), .val (.int p3), .val (.int p4), .val (.int p5), .val (.int ((p0 &&& (2147483647 : Int32)) % (6 : Int32))), .val (.ref b1), .val (.int ((0 : Int32) + (f2 p1)))] [(.int (f2 p2)), (.int ((0 : Int32) + (f2 p1)))])) t
        refine XS.iadd X5.here hx rfl (hb hby at_54) rfl ?_
        show Steps p.tables e below (T5.setTop (mkF m 55 #[.val (.int p0), .val (.int p1), .val (.int p2), .val (.int p3), .val (.int p4), .val (.int p5), .val (.int ((p0 &&& (2147483647 : Int32)) % (6 : Int32))), .val (.ref b1), .val (.int ((0 : Int32) + (f2 p1)))] [(.int (((0 : Int32) + (f2 p1)) + (f2 p2)))])) t
        refine XS.istore X5.here hx rfl (hb hby at_55) rfl (l' := #[.val (.int p0), .val (.int p1), .val (.int p2), .val (.int p3), .val (.int p4), .val (.int p5), .val (.int ((p0 &&& (2147483647 : Int32)) % (6 : Int32))), .val (.ref b1), .val (.int (((0 : Int32) + (f2 p1)) + (f2 p2)))]) rfl ?_
        show Steps p.tables e below (T5.setTop (mkF m 57 #[.val (.int p0), .val (.int p1), .val (.int p2), .val (.int p3), .val (.int p4), .val (.int p5), .val (.int ((p0 &&& (2147483647 : Int32)) % (6 : Int32))), .val (.ref b1), .val (.int (((0 : Int32) + (f2 p1)) + (f2 p2)))] [])) t
        refine XS.iload X5.here hx rfl (hb hby at_57) rfl ?_
        show Steps p.tables e below (T5.setTop (mkF m 59 #[.val (.int p0), .val (.int p1), .val (.int p2), .val (.int p3), .val (.int p4), .val (.int p5), .val (.int ((p0 &&& (2147483647 : Int32)) % (6 : Int32))), .val (.ref b1), .val (.int (((0 : Int32) + (f2 p1)) + (f2 p2)))] [(.int ((p0 &&& (2147483647 : Int32)) % (6 : Int32)))])) t
        refine XS.iconst X5.here hx rfl (hb hby at_59) ?_
        exact kt
      by_cases hc60 : (2 : Int32) < ((p0 &&& (2147483647 : Int32)) % (6 : Int32))
      · refine OGo.step (F' := T5.setTop (mkF m 63 #[.val (.int p0), .val (.int p1), .val (.int p2), .val (.int p3), .val (.int p4), .val (.int p5), .val (.int ((p0 &&& (2147483647 : Int32)) % (6 : Int32))), .val (.ref b1), .val (.int (((0 : Int32) + (f2 p1)) + (f2 p2)))] [])) (fun t kt => ?_) ?_
        · show Steps p.tables e below (T5.setTop (mkF m 60 #[.val (.int p0), .val (.int p1), .val (.int p2), .val (.int p3), .val (.int p4), .val (.int p5), .val (.int ((p0 &&& (2147483647 : Int32)) % (6 : Int32))), .val (.ref b1), .val (.int (((0 : Int32) + (f2 p1)) + (f2 p2)))] [(.int (2 : Int32)), (.int ((p0 &&& (2147483647 : Int32)) % (6 : Int32)))])) t
          refine XS.icmpNo X5.here hx rfl (hb hby at_60) rfl (tlt hc60).2.2.2 ?_
          exact kt
        refine OGo.step (F' := T5.setTop (mkF m 67 #[.val (.int p0), .val (.int p1), .val (.int p2), .val (.int p3), .val (.int p4), .val (.int p5), .val (.int ((p0 &&& (2147483647 : Int32)) % (6 : Int32))), .val (.ref b1), .val (.int (((0 : Int32) + (f2 p1)) + (f2 p2)))] [(.int p3), (.int (2 : Int32)), (.ref b1)])) (fun t kt => ?_) ?_
        · show Steps p.tables e below (T5.setTop (mkF m 63 #[.val (.int p0), .val (.int p1), .val (.int p2), .val (.int p3), .val (.int p4), .val (.int p5), .val (.int ((p0 &&& (2147483647 : Int32)) % (6 : Int32))), .val (.ref b1), .val (.int (((0 : Int32) + (f2 p1)) + (f2 p2)))] [])) t
          refine XS.aload X5.here hx rfl (hb hby at_63) rfl rfl ?_
          show Steps p.tables e below (T5.setTop (mkF m 65 #[.val (.int p0), .val (.int p1), .val (.int p2), .val (.int p3), .val (.int p4), .val (.int p5), .val (.int ((p0 &&& (2147483647 : Int32)) % (6 : Int32))), .val (.ref b1), .val (.int (((0 : Int32) + (f2 p1)) + (f2 p2)))] [(.ref b1)])) t
          refine XS.iconst X5.here hx rfl (hb hby at_65) ?_
          show Steps p.tables e below (T5.setTop (mkF m 66 #[.val (.int p0), .val (.int p1), .val (.int p2), .val (.int p3), .val (.int p4), .val (.int p5), .val (.int ((p0 &&& (2147483647 : Int32)) % (6 : Int32))), .val (.ref b1), .val (.int (((0 : Int32) + (f2 p1)) + (f2 p2)))] [(.int (2 : Int32)), (.ref b1)])) t
          refine XS.iloadN X5.here hx rfl (hb hby at_66) rfl ?_
          exact kt
        obtain ⟨cl6, Ar6, q6, S6, N6a, H6, G6⟩ := id (V4)
        have hin6 : ¬ ((2 : Int32) < 0 ∨ cl6.slots.size ≤ ((2 : Int32)).toNatClampNeg) := inb_of S6 ⟨by decide, hc60⟩
        obtain ⟨T6, h6, X6, e6, W6, st6⟩ := stI X5 hx hZ e5 Ar6 (j := (2 : Int32)) hin6 (g := (mkF m 67 #[.val (.int p0), .val (.int p1), .val (.int p2), .val (.int p3), .val (.int p4), .val (.int p5), .val (.int ((p0 &&& (2147483647 : Int32)) % (6 : Int32))), .val (.ref b1), .val (.int (((0 : Int32) + (f2 p1)) + (f2 p2)))] [(.int p3), (.int (2 : Int32)), (.ref b1)])) rfl rfl (hb hby at_67)
        have V6 : Arv Z h6 b1 k1 .int ((p0 &&& (2147483647 : Int32)) % (6 : Int32)) [(.int p1), (.int p2), (.int p3), (.int (0 : Int32)), (.int (0 : Int32))] (.int (0 : Int32)) := Arv.set Ar6 q6 S6 N6a H6 G6 rfl W6 2 rfl (Nat.le_of_ble_eq_true rfl)
        have KC6 : Keep h0 h6 [] := KC4.wr W6 (Or.inr sz_b1)
        have N6 := Fr.snoc X6 N5 gn_b1
        refine OGo.step st6 ?_
        show OGo _ _ _ _ _ _ _ (T6.setTop (mkF m 68 #[.val (.int p0), .val (.int p1), .val (.int p2), .val (.int p3), .val (.int p4), .val (.int p5), .val (.int ((p0 &&& (2147483647 : Int32)) % (6 : Int32))), .val (.ref b1), .val (.int (((0 : Int32) + (f2 p1)) + (f2 p2)))] []))
        refine OGo.step (F' := T6.setTop (mkF m 71 #[.val (.int p0), .val (.int p1), .val (.int p2), .val (.int p3), .val (.int p4), .val (.int p5), .val (.int ((p0 &&& (2147483647 : Int32)) % (6 : Int32))), .val (.ref b1), .val (.int (((0 : Int32) + (f2 p1)) + (f2 p2)))] [(.int p3), (.int (((0 : Int32) + (f2 p1)) + (f2 p2)))])) (fun t kt => ?_) ?_
        · show Steps p.tables e below (T6.setTop (mkF m 68 #[.val (.int p0), .val (.int p1), .val (.int p2), .val (.int p3), .val (.int p4), .val (.int p5), .val (.int ((p0 &&& (2147483647 : Int32)) % (6 : Int32))), .val (.ref b1), .val (.int (((0 : Int32) + (f2 p1)) + (f2 p2)))] [])) t
          refine XS.iload X6.here hx rfl (hb hby at_68) rfl ?_
          show Steps p.tables e below (T6.setTop (mkF m 70 #[.val (.int p0), .val (.int p1), .val (.int p2), .val (.int p3), .val (.int p4), .val (.int p5), .val (.int ((p0 &&& (2147483647 : Int32)) % (6 : Int32))), .val (.ref b1), .val (.int (((0 : Int32) + (f2 p1)) + (f2 p2)))] [(.int (((0 : Int32) + (f2 p1)) + (f2 p2)))])) t
          refine XS.iloadN X6.here hx rfl (hb hby at_70) rfl ?_
          exact kt
        refine OGo.callS X6 hx hZ (y := (⟨"com/example/kette/kette/EcmaPatternReaderCountStatesPinLaw", "makes", "(I)I"⟩ : MethodName)) hown (own_wd hw 6 rfl) (own_wd hw 7 rfl) (own_wd hw 8 rfl) (own_wd hw 9 rfl) (by decide) (rm2 l Z az hw [] p3 h6 n0 (Nat.le_trans Z0 KC6.1)) (W := 1) (by decide) (by decide) (g := (mkF m 71 #[.val (.int p0), .val (.int p1), .val (.int p2), .val (.int p3), .val (.int p4), .val (.int p5), .val (.int ((p0 &&& (2147483647 : Int32)) % (6 : Int32))), .val (.ref b1), .val (.int (((0 : Int32) + (f2 p1)) + (f2 p2)))] [(.int p3), (.int (((0 : Int32) + (f2 p1)) + (f2 p2)))])) rfl (by rw [hml]; rfl) (argsL := [(.int p3)]) (rest := [(.int (((0 : Int32) + (f2 p1)) + (f2 p2)))]) (lenOf pd_0_0 rfl) rfl (by show 2 * 0 + _ ≤ _; exact Nat.le_of_eq rfl) (hb hby at_71) rfl e6 (by decide) (by decide) ?_
        rintro _ T7 L7 X7 ⟨rfl, Nq7, e7⟩
        have N7 := Fr.app N6 Nq7
        show OGo _ _ _ _ _ _ _ (T7.setTop (mkF m 74 #[.val (.int p0), .val (.int p1), .val (.int p2), .val (.int p3), .val (.int p4), .val (.int p5), .val (.int ((p0 &&& (2147483647 : Int32)) % (6 : Int32))), .val (.ref b1), .val (.int (((0 : Int32) + (f2 p1)) + (f2 p2)))] [(.int (f2 p3)), (.int (((0 : Int32) + (f2 p1)) + (f2 p2)))]))
        refine OGo.step (F' := T7.setTop (mkF m 80 #[.val (.int p0), .val (.int p1), .val (.int p2), .val (.int p3), .val (.int p4), .val (.int p5), .val (.int ((p0 &&& (2147483647 : Int32)) % (6 : Int32))), .val (.ref b1), .val (.int ((((0 : Int32) + (f2 p1)) + (f2 p2)) + (f2 p3)))] [(.int (3 : Int32)), (.int ((p0 &&& (2147483647 : Int32)) % (6 : Int32)))])) (fun t kt => ?_) ?_
        · show Steps p.tables e below (T7.setTop (mkF m 74 #[.val (.int p0), .val (.int p1), .val (.int p2), .val (.int p3), .val (.int p4), .val (.int p5), .val (.int ((p0 &&& (2147483647 : Int32)) % (6 : Int32))), .val (.ref b1), .val (.int (((0 : Int32) + (f2 p1)) + (f2 p2)))] [(.int (f2 p3)), (.int (((0 : Int32) + (f2 p1)) + (f2 p2)))])) t
          refine XS.iadd X7.here hx rfl (hb hby at_74) rfl ?_
          show Steps p.tables e below (T7.setTop (mkF m 75 #[.val (.int p0), .val (.int p1), .val (.int p2), .val (.int p3), .val (.int p4), .val (.int p5), .val (.int ((p0 &&& (2147483647 : Int32)) % (6 : Int32))), .val (.ref b1), .val (.int (((0 : Int32) + (f2 p1)) + (f2 p2)))] [(.int ((((0 : Int32) + (f2 p1)) + (f2 p2)) + (f2 p3)))])) t
          refine XS.istore X7.here hx rfl (hb hby at_75) rfl (l' := #[.val (.int p0), .val (.int p1), .val (.int p2), .val (.int p3), .val (.int p4), .val (.int p5), .val (.int ((p0 &&& (2147483647 : Int32)) % (6 : Int32))), .val (.ref b1), .val (.int ((((0 : Int32) + (f2 p1)) + (f2 p2)) + (f2 p3)))]) rfl ?_
          show Steps p.tables e below (T7.setTop (mkF m 77 #[.val (.int p0), .val (.int p1), .val (.int p2), .val (.int p3), .val (.int p4), .val (.int p5), .val (.int ((p0 &&& (2147483647 : Int32)) % (6 : Int32))), .val (.ref b1), .val (.int ((((0 : Int32) + (f2 p1)) + (f2 p2)) + (f2 p3)))] [])) t
          refine XS.iload X7.here hx rfl (hb hby at_77) rfl ?_
          show Steps p.tables e below (T7.setTop (mkF m 79 #[.val (.int p0), .val (.int p1), .val (.int p2), .val (.int p3), .val (.int p4), .val (.int p5), .val (.int ((p0 &&& (2147483647 : Int32)) % (6 : Int32))), .val (.ref b1), .val (.int ((((0 : Int32) + (f2 p1)) + (f2 p2)) + (f2 p3)))] [(.int ((p0 &&& (2147483647 : Int32)) % (6 : Int32)))])) t
          refine XS.iconst X7.here hx rfl (hb hby at_79) ?_
          exact kt
        by_cases hc80 : (3 : Int32) < ((p0 &&& (2147483647 : Int32)) % (6 : Int32))
        · refine OGo.step (F' := T7.setTop (mkF m 83 #[.val (.int p0), .val (.int p1), .val (.int p2), .val (.int p3), .val (.int p4), .val (.int p5), .val (.int ((p0 &&& (2147483647 : Int32)) % (6 : Int32))), .val (.ref b1), .val (.int ((((0 : Int32) + (f2 p1)) + (f2 p2)) + (f2 p3)))] [])) (fun t kt => ?_) ?_
          · show Steps p.tables e below (T7.setTop (mkF m 80 #[.val (.int p0), .val (.int p1), .val (.int p2), .val (.int p3), .val (.int p4), .val (.int p5), .val (.int ((p0 &&& (2147483647 : Int32)) % (6 : Int32))), .val (.ref b1), .val (.int ((((0 : Int32) + (f2 p1)) + (f2 p2)) + (f2 p3)))] [(.int (3 : Int32)), (.int ((p0 &&& (2147483647 : Int32)) % (6 : Int32)))])) t
            refine XS.icmpNo X7.here hx rfl (hb hby at_80) rfl (tlt hc80).2.2.2 ?_
            exact kt
          refine OGo.step (F' := T7.setTop (mkF m 88 #[.val (.int p0), .val (.int p1), .val (.int p2), .val (.int p3), .val (.int p4), .val (.int p5), .val (.int ((p0 &&& (2147483647 : Int32)) % (6 : Int32))), .val (.ref b1), .val (.int ((((0 : Int32) + (f2 p1)) + (f2 p2)) + (f2 p3)))] [(.int p4), (.int (3 : Int32)), (.ref b1)])) (fun t kt => ?_) ?_
          · show Steps p.tables e below (T7.setTop (mkF m 83 #[.val (.int p0), .val (.int p1), .val (.int p2), .val (.int p3), .val (.int p4), .val (.int p5), .val (.int ((p0 &&& (2147483647 : Int32)) % (6 : Int32))), .val (.ref b1), .val (.int ((((0 : Int32) + (f2 p1)) + (f2 p2)) + (f2 p3)))] [])) t
            refine XS.aload X7.here hx rfl (hb hby at_83) rfl rfl ?_
            show Steps p.tables e below (T7.setTop (mkF m 85 #[.val (.int p0), .val (.int p1), .val (.int p2), .val (.int p3), .val (.int p4), .val (.int p5), .val (.int ((p0 &&& (2147483647 : Int32)) % (6 : Int32))), .val (.ref b1), .val (.int ((((0 : Int32) + (f2 p1)) + (f2 p2)) + (f2 p3)))] [(.ref b1)])) t
            refine XS.iconst X7.here hx rfl (hb hby at_85) ?_
            show Steps p.tables e below (T7.setTop (mkF m 86 #[.val (.int p0), .val (.int p1), .val (.int p2), .val (.int p3), .val (.int p4), .val (.int p5), .val (.int ((p0 &&& (2147483647 : Int32)) % (6 : Int32))), .val (.ref b1), .val (.int ((((0 : Int32) + (f2 p1)) + (f2 p2)) + (f2 p3)))] [(.int (3 : Int32)), (.ref b1)])) t
            refine XS.iload X7.here hx rfl (hb hby at_86) rfl ?_
            exact kt
          obtain ⟨cl8, Ar8, q8, S8, N8a, H8, G8⟩ := id (V6)
          have hin8 : ¬ ((3 : Int32) < 0 ∨ cl8.slots.size ≤ ((3 : Int32)).toNatClampNeg) := inb_of S8 ⟨by decide, hc80⟩
          obtain ⟨T8, h8, X8, e8, W8, st8⟩ := stI X7 hx hZ e7 Ar8 (j := (3 : Int32)) hin8 (g := (mkF m 88 #[.val (.int p0), .val (.int p1), .val (.int p2), .val (.int p3), .val (.int p4), .val (.int p5), .val (.int ((p0 &&& (2147483647 : Int32)) % (6 : Int32))), .val (.ref b1), .val (.int ((((0 : Int32) + (f2 p1)) + (f2 p2)) + (f2 p3)))] [(.int p4), (.int (3 : Int32)), (.ref b1)])) rfl rfl (hb hby at_88)
          have V8 : Arv Z h8 b1 k1 .int ((p0 &&& (2147483647 : Int32)) % (6 : Int32)) [(.int p1), (.int p2), (.int p3), (.int p4), (.int (0 : Int32))] (.int (0 : Int32)) := Arv.set Ar8 q8 S8 N8a H8 G8 rfl W8 3 rfl (Nat.le_of_ble_eq_true rfl)
          have KC8 : Keep h0 h8 [] := KC6.wr W8 (Or.inr sz_b1)
          have N8 := Fr.snoc X8 N7 gn_b1
          refine OGo.step st8 ?_
          show OGo _ _ _ _ _ _ _ (T8.setTop (mkF m 89 #[.val (.int p0), .val (.int p1), .val (.int p2), .val (.int p3), .val (.int p4), .val (.int p5), .val (.int ((p0 &&& (2147483647 : Int32)) % (6 : Int32))), .val (.ref b1), .val (.int ((((0 : Int32) + (f2 p1)) + (f2 p2)) + (f2 p3)))] []))
          refine OGo.step (F' := T8.setTop (mkF m 93 #[.val (.int p0), .val (.int p1), .val (.int p2), .val (.int p3), .val (.int p4), .val (.int p5), .val (.int ((p0 &&& (2147483647 : Int32)) % (6 : Int32))), .val (.ref b1), .val (.int ((((0 : Int32) + (f2 p1)) + (f2 p2)) + (f2 p3)))] [(.int p4), (.int ((((0 : Int32) + (f2 p1)) + (f2 p2)) + (f2 p3)))])) (fun t kt => ?_) ?_
          · show Steps p.tables e below (T8.setTop (mkF m 89 #[.val (.int p0), .val (.int p1), .val (.int p2), .val (.int p3), .val (.int p4), .val (.int p5), .val (.int ((p0 &&& (2147483647 : Int32)) % (6 : Int32))), .val (.ref b1), .val (.int ((((0 : Int32) + (f2 p1)) + (f2 p2)) + (f2 p3)))] [])) t
            refine XS.iload X8.here hx rfl (hb hby at_89) rfl ?_
            show Steps p.tables e below (T8.setTop (mkF m 91 #[.val (.int p0), .val (.int p1), .val (.int p2), .val (.int p3), .val (.int p4), .val (.int p5), .val (.int ((p0 &&& (2147483647 : Int32)) % (6 : Int32))), .val (.ref b1), .val (.int ((((0 : Int32) + (f2 p1)) + (f2 p2)) + (f2 p3)))] [(.int ((((0 : Int32) + (f2 p1)) + (f2 p2)) + (f2 p3)))])) t
            refine XS.iload X8.here hx rfl (hb hby at_91) rfl ?_
            exact kt
          refine OGo.callS X8 hx hZ (y := (⟨"com/example/kette/kette/EcmaPatternReaderCountStatesPinLaw", "makes", "(I)I"⟩ : MethodName)) hown (own_wd hw 6 rfl) (own_wd hw 7 rfl) (own_wd hw 8 rfl) (own_wd hw 9 rfl) (by decide) (rm2 l Z az hw [] p4 h8 n0 (Nat.le_trans Z0 KC8.1)) (W := 1) (by decide) (by decide) (g := (mkF m 93 #[.val (.int p0), .val (.int p1), .val (.int p2), .val (.int p3), .val (.int p4), .val (.int p5), .val (.int ((p0 &&& (2147483647 : Int32)) % (6 : Int32))), .val (.ref b1), .val (.int ((((0 : Int32) + (f2 p1)) + (f2 p2)) + (f2 p3)))] [(.int p4), (.int ((((0 : Int32) + (f2 p1)) + (f2 p2)) + (f2 p3)))])) rfl (by rw [hml]; rfl) (argsL := [(.int p4)]) (rest := [(.int ((((0 : Int32) + (f2 p1)) + (f2 p2)) + (f2 p3)))]) (lenOf pd_0_0 rfl) rfl (by show 2 * 0 + _ ≤ _; exact Nat.le_of_eq rfl) (hb hby at_93) rfl e8 (by decide) (by decide) ?_
          rintro _ T9 L9 X9 ⟨rfl, Nq9, e9⟩
          have N9 := Fr.app N8 Nq9
          show OGo _ _ _ _ _ _ _ (T9.setTop (mkF m 96 #[.val (.int p0), .val (.int p1), .val (.int p2), .val (.int p3), .val (.int p4), .val (.int p5), .val (.int ((p0 &&& (2147483647 : Int32)) % (6 : Int32))), .val (.ref b1), .val (.int ((((0 : Int32) + (f2 p1)) + (f2 p2)) + (f2 p3)))] [(.int (f2 p4)), (.int ((((0 : Int32) + (f2 p1)) + (f2 p2)) + (f2 p3)))]))
          refine OGo.step (F' := T9.setTop (mkF m 102 #[.val (.int p0), .val (.int p1), .val (.int p2), .val (.int p3), .val (.int p4), .val (.int p5), .val (.int ((p0 &&& (2147483647 : Int32)) % (6 : Int32))), .val (.ref b1), .val (.int (((((0 : Int32) + (f2 p1)) + (f2 p2)) + (f2 p3)) + (f2 p4)))] [(.int (4 : Int32)), (.int ((p0 &&& (2147483647 : Int32)) % (6 : Int32)))])) (fun t kt => ?_) ?_
          · show Steps p.tables e below (T9.setTop (mkF m 96 #[.val (.int p0), .val (.int p1), .val (.int p2), .val (.int p3), .val (.int p4), .val (.int p5), .val (.int ((p0 &&& (2147483647 : Int32)) % (6 : Int32))), .val (.ref b1), .val (.int ((((0 : Int32) + (f2 p1)) + (f2 p2)) + (f2 p3)))] [(.int (f2 p4)), (.int ((((0 : Int32) + (f2 p1)) + (f2 p2)) + (f2 p3)))])) t
            refine XS.iadd X9.here hx rfl (hb hby at_96) rfl ?_
            show Steps p.tables e below (T9.setTop (mkF m 97 #[.val (.int p0), .val (.int p1), .val (.int p2), .val (.int p3), .val (.int p4), .val (.int p5), .val (.int ((p0 &&& (2147483647 : Int32)) % (6 : Int32))), .val (.ref b1), .val (.int ((((0 : Int32) + (f2 p1)) + (f2 p2)) + (f2 p3)))] [(.int (((((0 : Int32) + (f2 p1)) + (f2 p2)) + (f2 p3)) + (f2 p4)))])) t
            refine XS.istore X9.here hx rfl (hb hby at_97) rfl (l' := #[.val (.int p0), .val (.int p1), .val (.int p2), .val (.int p3), .val (.int p4), .val (.int p5), .val (.int ((p0 &&& (2147483647 : Int32)) % (6 : Int32))), .val (.ref b1), .val (.int (((((0 : Int32) + (f2 p1)) + (f2 p2)) + (f2 p3)) + (f2 p4)))]) rfl ?_
            show Steps p.tables e below (T9.setTop (mkF m 99 #[.val (.int p0), .val (.int p1), .val (.int p2), .val (.int p3), .val (.int p4), .val (.int p5), .val (.int ((p0 &&& (2147483647 : Int32)) % (6 : Int32))), .val (.ref b1), .val (.int (((((0 : Int32) + (f2 p1)) + (f2 p2)) + (f2 p3)) + (f2 p4)))] [])) t
            refine XS.iload X9.here hx rfl (hb hby at_99) rfl ?_
            show Steps p.tables e below (T9.setTop (mkF m 101 #[.val (.int p0), .val (.int p1), .val (.int p2), .val (.int p3), .val (.int p4), .val (.int p5), .val (.int ((p0 &&& (2147483647 : Int32)) % (6 : Int32))), .val (.ref b1), .val (.int (((((0 : Int32) + (f2 p1)) + (f2 p2)) + (f2 p3)) + (f2 p4)))] [(.int ((p0 &&& (2147483647 : Int32)) % (6 : Int32)))])) t
            refine XS.iconst X9.here hx rfl (hb hby at_101) ?_
            exact kt
          by_cases hc102 : (4 : Int32) < ((p0 &&& (2147483647 : Int32)) % (6 : Int32))
          · refine OGo.step (F' := T9.setTop (mkF m 105 #[.val (.int p0), .val (.int p1), .val (.int p2), .val (.int p3), .val (.int p4), .val (.int p5), .val (.int ((p0 &&& (2147483647 : Int32)) % (6 : Int32))), .val (.ref b1), .val (.int (((((0 : Int32) + (f2 p1)) + (f2 p2)) + (f2 p3)) + (f2 p4)))] [])) (fun t kt => ?_) ?_
            · show Steps p.tables e below (T9.setTop (mkF m 102 #[.val (.int p0), .val (.int p1), .val (.int p2), .val (.int p3), .val (.int p4), .val (.int p5), .val (.int ((p0 &&& (2147483647 : Int32)) % (6 : Int32))), .val (.ref b1), .val (.int (((((0 : Int32) + (f2 p1)) + (f2 p2)) + (f2 p3)) + (f2 p4)))] [(.int (4 : Int32)), (.int ((p0 &&& (2147483647 : Int32)) % (6 : Int32)))])) t
              refine XS.icmpNo X9.here hx rfl (hb hby at_102) rfl (tlt hc102).2.2.2 ?_
              exact kt
            refine OGo.step (F' := T9.setTop (mkF m 110 #[.val (.int p0), .val (.int p1), .val (.int p2), .val (.int p3), .val (.int p4), .val (.int p5), .val (.int ((p0 &&& (2147483647 : Int32)) % (6 : Int32))), .val (.ref b1), .val (.int (((((0 : Int32) + (f2 p1)) + (f2 p2)) + (f2 p3)) + (f2 p4)))] [(.int p5), (.int (4 : Int32)), (.ref b1)])) (fun t kt => ?_) ?_
            · show Steps p.tables e below (T9.setTop (mkF m 105 #[.val (.int p0), .val (.int p1), .val (.int p2), .val (.int p3), .val (.int p4), .val (.int p5), .val (.int ((p0 &&& (2147483647 : Int32)) % (6 : Int32))), .val (.ref b1), .val (.int (((((0 : Int32) + (f2 p1)) + (f2 p2)) + (f2 p3)) + (f2 p4)))] [])) t
              refine XS.aload X9.here hx rfl (hb hby at_105) rfl rfl ?_
              show Steps p.tables e below (T9.setTop (mkF m 107 #[.val (.int p0), .val (.int p1), .val (.int p2), .val (.int p3), .val (.int p4), .val (.int p5), .val (.int ((p0 &&& (2147483647 : Int32)) % (6 : Int32))), .val (.ref b1), .val (.int (((((0 : Int32) + (f2 p1)) + (f2 p2)) + (f2 p3)) + (f2 p4)))] [(.ref b1)])) t
              refine XS.iconst X9.here hx rfl (hb hby at_107) ?_
              show Steps p.tables e below (T9.setTop (mkF m 108 #[.val (.int p0), .val (.int p1), .val (.int p2), .val (.int p3), .val (.int p4), .val (.int p5), .val (.int ((p0 &&& (2147483647 : Int32)) % (6 : Int32))), .val (.ref b1), .val (.int (((((0 : Int32) + (f2 p1)) + (f2 p2)) + (f2 p3)) + (f2 p4)))] [(.int (4 : Int32)), (.ref b1)])) t
              refine XS.iload X9.here hx rfl (hb hby at_108) rfl ?_
              exact kt
            obtain ⟨cl10, Ar10, q10, S10, N10a, H10, G10⟩ := id (V8)
            have hin10 : ¬ ((4 : Int32) < 0 ∨ cl10.slots.size ≤ ((4 : Int32)).toNatClampNeg) := inb_of S10 ⟨by decide, hc102⟩
            obtain ⟨T10, h10, X10, e10, W10, st10⟩ := stI X9 hx hZ e9 Ar10 (j := (4 : Int32)) hin10 (g := (mkF m 110 #[.val (.int p0), .val (.int p1), .val (.int p2), .val (.int p3), .val (.int p4), .val (.int p5), .val (.int ((p0 &&& (2147483647 : Int32)) % (6 : Int32))), .val (.ref b1), .val (.int (((((0 : Int32) + (f2 p1)) + (f2 p2)) + (f2 p3)) + (f2 p4)))] [(.int p5), (.int (4 : Int32)), (.ref b1)])) rfl rfl (hb hby at_110)
            have V10 : Arv Z h10 b1 k1 .int ((p0 &&& (2147483647 : Int32)) % (6 : Int32)) [(.int p1), (.int p2), (.int p3), (.int p4), (.int p5)] (.int (0 : Int32)) := Arv.set Ar10 q10 S10 N10a H10 G10 rfl W10 4 rfl (Nat.le_of_ble_eq_true rfl)
            have KC10 : Keep h0 h10 [] := KC8.wr W10 (Or.inr sz_b1)
            have N10 := Fr.snoc X10 N9 gn_b1
            refine OGo.step st10 ?_
            show OGo _ _ _ _ _ _ _ (T10.setTop (mkF m 111 #[.val (.int p0), .val (.int p1), .val (.int p2), .val (.int p3), .val (.int p4), .val (.int p5), .val (.int ((p0 &&& (2147483647 : Int32)) % (6 : Int32))), .val (.ref b1), .val (.int (((((0 : Int32) + (f2 p1)) + (f2 p2)) + (f2 p3)) + (f2 p4)))] []))
            refine OGo.step (F' := T10.setTop (mkF m 115 #[.val (.int p0), .val (.int p1), .val (.int p2), .val (.int p3), .val (.int p4), .val (.int p5), .val (.int ((p0 &&& (2147483647 : Int32)) % (6 : Int32))), .val (.ref b1), .val (.int (((((0 : Int32) + (f2 p1)) + (f2 p2)) + (f2 p3)) + (f2 p4)))] [(.int p5), (.int (((((0 : Int32) + (f2 p1)) + (f2 p2)) + (f2 p3)) + (f2 p4)))])) (fun t kt => ?_) ?_
            · show Steps p.tables e below (T10.setTop (mkF m 111 #[.val (.int p0), .val (.int p1), .val (.int p2), .val (.int p3), .val (.int p4), .val (.int p5), .val (.int ((p0 &&& (2147483647 : Int32)) % (6 : Int32))), .val (.ref b1), .val (.int (((((0 : Int32) + (f2 p1)) + (f2 p2)) + (f2 p3)) + (f2 p4)))] [])) t
              refine XS.iload X10.here hx rfl (hb hby at_111) rfl ?_
              show Steps p.tables e below (T10.setTop (mkF m 113 #[.val (.int p0), .val (.int p1), .val (.int p2), .val (.int p3), .val (.int p4), .val (.int p5), .val (.int ((p0 &&& (2147483647 : Int32)) % (6 : Int32))), .val (.ref b1), .val (.int (((((0 : Int32) + (f2 p1)) + (f2 p2)) + (f2 p3)) + (f2 p4)))] [(.int (((((0 : Int32) + (f2 p1)) + (f2 p2)) + (f2 p3)) + (f2 p4)))])) t
              refine XS.iload X10.here hx rfl (hb hby at_113) rfl ?_
              exact kt
            refine OGo.callS X10 hx hZ (y := (⟨"com/example/kette/kette/EcmaPatternReaderCountStatesPinLaw", "makes", "(I)I"⟩ : MethodName)) hown (own_wd hw 6 rfl) (own_wd hw 7 rfl) (own_wd hw 8 rfl) (own_wd hw 9 rfl) (by decide) (rm2 l Z az hw [] p5 h10 n0 (Nat.le_trans Z0 KC10.1)) (W := 1) (by decide) (by decide) (g := (mkF m 115 #[.val (.int p0), .val (.int p1), .val (.int p2), .val (.int p3), .val (.int p4), .val (.int p5), .val (.int ((p0 &&& (2147483647 : Int32)) % (6 : Int32))), .val (.ref b1), .val (.int (((((0 : Int32) + (f2 p1)) + (f2 p2)) + (f2 p3)) + (f2 p4)))] [(.int p5), (.int (((((0 : Int32) + (f2 p1)) + (f2 p2)) + (f2 p3)) + (f2 p4)))])) rfl (by rw [hml]; rfl) (argsL := [(.int p5)]) (rest := [(.int (((((0 : Int32) + (f2 p1)) + (f2 p2)) + (f2 p3)) + (f2 p4)))]) (lenOf pd_0_0 rfl) rfl (by show 2 * 0 + _ ≤ _; exact Nat.le_of_eq rfl) (hb hby at_115) rfl e10 (by decide) (by decide) ?_
            rintro _ T11 L11 X11 ⟨rfl, Nq11, e11⟩
            have N11 := Fr.app N10 Nq11
            show OGo _ _ _ _ _ _ _ (T11.setTop (mkF m 118 #[.val (.int p0), .val (.int p1), .val (.int p2), .val (.int p3), .val (.int p4), .val (.int p5), .val (.int ((p0 &&& (2147483647 : Int32)) % (6 : Int32))), .val (.ref b1), .val (.int (((((0 : Int32) + (f2 p1)) + (f2 p2)) + (f2 p3)) + (f2 p4)))] [(.int (f2 p5)), (.int (((((0 : Int32) + (f2 p1)) + (f2 p2)) + (f2 p3)) + (f2 p4)))]))
            refine OGo.step (F' := T11.setTop (mkF m 123 #[.val (.int p0), .val (.int p1), .val (.int p2), .val (.int p3), .val (.int p4), .val (.int p5), .val (.int ((p0 &&& (2147483647 : Int32)) % (6 : Int32))), .val (.ref b1), .val (.int ((((((0 : Int32) + (f2 p1)) + (f2 p2)) + (f2 p3)) + (f2 p4)) + (f2 p5)))] [(.ref b1)])) (fun t kt => ?_) ?_
            · show Steps p.tables e below (T11.setTop (mkF m 118 #[.val (.int p0), .val (.int p1), .val (.int p2), .val (.int p3), .val (.int p4), .val (.int p5), .val (.int ((p0 &&& (2147483647 : Int32)) % (6 : Int32))), .val (.ref b1), .val (.int (((((0 : Int32) + (f2 p1)) + (f2 p2)) + (f2 p3)) + (f2 p4)))] [(.int (f2 p5)), (.int (((((0 : Int32) + (f2 p1)) + (f2 p2)) + (f2 p3)) + (f2 p4)))])) t
              refine XS.iadd X11.here hx rfl (hb hby at_118) rfl ?_
              show Steps p.tables e below (T11.setTop (mkF m 119 #[.val (.int p0), .val (.int p1), .val (.int p2), .val (.int p3), .val (.int p4), .val (.int p5), .val (.int ((p0 &&& (2147483647 : Int32)) % (6 : Int32))), .val (.ref b1), .val (.int (((((0 : Int32) + (f2 p1)) + (f2 p2)) + (f2 p3)) + (f2 p4)))] [(.int ((((((0 : Int32) + (f2 p1)) + (f2 p2)) + (f2 p3)) + (f2 p4)) + (f2 p5)))])) t
              refine XS.istore X11.here hx rfl (hb hby at_119) rfl (l' := #[.val (.int p0), .val (.int p1), .val (.int p2), .val (.int p3), .val (.int p4), .val (.int p5), .val (.int ((p0 &&& (2147483647 : Int32)) % (6 : Int32))), .val (.ref b1), .val (.int ((((((0 : Int32) + (f2 p1)) + (f2 p2)) + (f2 p3)) + (f2 p4)) + (f2 p5)))]) rfl ?_
              show Steps p.tables e below (T11.setTop (mkF m 121 #[.val (.int p0), .val (.int p1), .val (.int p2), .val (.int p3), .val (.int p4), .val (.int p5), .val (.int ((p0 &&& (2147483647 : Int32)) % (6 : Int32))), .val (.ref b1), .val (.int ((((((0 : Int32) + (f2 p1)) + (f2 p2)) + (f2 p3)) + (f2 p4)) + (f2 p5)))] [])) t
              refine XS.aload X11.here hx rfl (hb hby at_121) rfl rfl ?_
              exact kt
            refine OGo.callS X11 hx hZ (y := (⟨"com/example/kette/kette/EcmaPatternReader", "countStates", "([I)I"⟩ : MethodName)) hown (own_wd hw 2 rfl) (own_wd hw 3 rfl) (own_wd hw 4 rfl) (own_wd hw 5 rfl) (by decide) (rm1 l Z az hw [] b1 k1 ((p0 &&& (2147483647 : Int32)) % (6 : Int32)) [(.int p1), (.int p2), (.int p3), (.int p4), (.int p5)] [p1, p2, p3, p4, p5] h10 n0 (Nat.le_trans Z0 KC10.1) V10 (own_len p0).1 (Nat.le_antisymm (own_len p0).2 (by have q := hc102; simp only [Int32.lt_iff_toInt_lt, Int32.toNatClampNeg, Int32.reduceToInt] at *; omega)).symm (by rw [(Nat.le_antisymm (own_len p0).2 (by have q := hc102; simp only [Int32.lt_iff_toInt_lt, Int32.toNatClampNeg, Int32.reduceToInt] at *; omega))]; intro j hj; match j, hj with | 0, _ => rfl | 1, _ => rfl | 2, _ => rfl | 3, _ => rfl | 4, _ => rfl)) (W := 0) (by decide) (by decide) (g := (mkF m 123 #[.val (.int p0), .val (.int p1), .val (.int p2), .val (.int p3), .val (.int p4), .val (.int p5), .val (.int ((p0 &&& (2147483647 : Int32)) % (6 : Int32))), .val (.ref b1), .val (.int ((((((0 : Int32) + (f2 p1)) + (f2 p2)) + (f2 p3)) + (f2 p4)) + (f2 p5)))] [(.ref b1)])) rfl (by rw [hml]; rfl) (argsL := [(.ref b1)]) (rest := []) (lenOf pd_0_1 rfl) rfl (by show 2 * 0 + _ ≤ _; exact Nat.le_of_eq rfl) (hb hby at_123) rfl e11 (by decide) (by decide) ?_
            rintro _ T12 L12 X12 ⟨rfl, Nq12, e12⟩
            have N12 := Fr.app N11 Nq12
            show OGo _ _ _ _ _ _ _ (T12.setTop (mkF m 126 #[.val (.int p0), .val (.int p1), .val (.int p2), .val (.int p3), .val (.int p4), .val (.int p5), .val (.int ((p0 &&& (2147483647 : Int32)) % (6 : Int32))), .val (.ref b1), .val (.int ((((((0 : Int32) + (f2 p1)) + (f2 p2)) + (f2 p3)) + (f2 p4)) + (f2 p5)))] [(.int (own_cnt [p1, p2, p3, p4, p5]))]))
            refine OGo.step (F' := T12.setTop (mkF m 128 #[.val (.int p0), .val (.int p1), .val (.int p2), .val (.int p3), .val (.int p4), .val (.int p5), .val (.int ((p0 &&& (2147483647 : Int32)) % (6 : Int32))), .val (.ref b1), .val (.int ((((((0 : Int32) + (f2 p1)) + (f2 p2)) + (f2 p3)) + (f2 p4)) + (f2 p5)))] [(.int ((((((0 : Int32) + (f2 p1)) + (f2 p2)) + (f2 p3)) + (f2 p4)) + (f2 p5))), (.int (own_cnt [p1, p2, p3, p4, p5]))])) (fun t kt => ?_) ?_
            · show Steps p.tables e below (T12.setTop (mkF m 126 #[.val (.int p0), .val (.int p1), .val (.int p2), .val (.int p3), .val (.int p4), .val (.int p5), .val (.int ((p0 &&& (2147483647 : Int32)) % (6 : Int32))), .val (.ref b1), .val (.int ((((((0 : Int32) + (f2 p1)) + (f2 p2)) + (f2 p3)) + (f2 p4)) + (f2 p5)))] [(.int (own_cnt [p1, p2, p3, p4, p5]))])) t
              refine XS.iload X12.here hx rfl (hb hby at_126) rfl ?_
              exact kt
            by_cases hc128 : (own_cnt [p1, p2, p3, p4, p5]) = ((((((0 : Int32) + (f2 p1)) + (f2 p2)) + (f2 p3)) + (f2 p4)) + (f2 p5))
            · refine OGo.step (F' := T12.setTop (mkF m 131 #[.val (.int p0), .val (.int p1), .val (.int p2), .val (.int p3), .val (.int p4), .val (.int p5), .val (.int ((p0 &&& (2147483647 : Int32)) % (6 : Int32))), .val (.ref b1), .val (.int ((((((0 : Int32) + (f2 p1)) + (f2 p2)) + (f2 p3)) + (f2 p4)) + (f2 p5)))] [])) (fun t kt => ?_) ?_
              · show Steps p.tables e below (T12.setTop (mkF m 128 #[.val (.int p0), .val (.int p1), .val (.int p2), .val (.int p3), .val (.int p4), .val (.int p5), .val (.int ((p0 &&& (2147483647 : Int32)) % (6 : Int32))), .val (.ref b1), .val (.int ((((((0 : Int32) + (f2 p1)) + (f2 p2)) + (f2 p3)) + (f2 p4)) + (f2 p5)))] [(.int ((((((0 : Int32) + (f2 p1)) + (f2 p2)) + (f2 p3)) + (f2 p4)) + (f2 p5))), (.int (own_cnt [p1, p2, p3, p4, p5]))])) t
                refine XS.icmpNo X12.here hx rfl (hb hby at_128) rfl (teq hc128).2 ?_
                exact kt
              refine OGo.step (F' := T12.setTop (mkF m 136 #[.val (.int p0), .val (.int p1), .val (.int p2), .val (.int p3), .val (.int p4), .val (.int p5), .val (.int ((p0 &&& (2147483647 : Int32)) % (6 : Int32))), .val (.ref b1), .val (.int ((((((0 : Int32) + (f2 p1)) + (f2 p2)) + (f2 p3)) + (f2 p4)) + (f2 p5)))] [(.int (1 : Int32))])) (fun t kt => ?_) ?_
              · show Steps p.tables e below (T12.setTop (mkF m 131 #[.val (.int p0), .val (.int p1), .val (.int p2), .val (.int p3), .val (.int p4), .val (.int p5), .val (.int ((p0 &&& (2147483647 : Int32)) % (6 : Int32))), .val (.ref b1), .val (.int ((((((0 : Int32) + (f2 p1)) + (f2 p2)) + (f2 p3)) + (f2 p4)) + (f2 p5)))] [])) t
                refine XS.iconst X12.here hx rfl (hb hby at_131) ?_
                show Steps p.tables e below (T12.setTop (mkF m 132 #[.val (.int p0), .val (.int p1), .val (.int p2), .val (.int p3), .val (.int p4), .val (.int p5), .val (.int ((p0 &&& (2147483647 : Int32)) % (6 : Int32))), .val (.ref b1), .val (.int ((((((0 : Int32) + (f2 p1)) + (f2 p2)) + (f2 p3)) + (f2 p4)) + (f2 p5)))] [(.int (1 : Int32))])) t
                refine XS.goto X12.here hx rfl (pc0 := 132) (pc' := 136) rfl (hb hby at_132) (by decide) (by decide) ?_
                exact kt
              refine OGo.retZ X12 hx hlk (t := .boolean) (z' := (1 : Int32)) hret (by simp) (hb hby at_136) rfl ?_ (by decide) (by decide)
              show Q0 Z p0 p1 p2 p3 p4 p5 h0 n0 _ T12.heap _
              rw [e12]
              exact ⟨(by rw [f0, if_pos hc20, if_pos hc40, if_pos hc60, if_pos hc80, if_pos hc102, if_pos hc128]), N12, KC10⟩
            · refine OGo.step (F' := T12.setTop (mkF m 135 #[.val (.int p0), .val (.int p1), .val (.int p2), .val (.int p3), .val (.int p4), .val (.int p5), .val (.int ((p0 &&& (2147483647 : Int32)) % (6 : Int32))), .val (.ref b1), .val (.int ((((((0 : Int32) + (f2 p1)) + (f2 p2)) + (f2 p3)) + (f2 p4)) + (f2 p5)))] [])) (fun t kt => ?_) ?_
              · show Steps p.tables e below (T12.setTop (mkF m 128 #[.val (.int p0), .val (.int p1), .val (.int p2), .val (.int p3), .val (.int p4), .val (.int p5), .val (.int ((p0 &&& (2147483647 : Int32)) % (6 : Int32))), .val (.ref b1), .val (.int ((((((0 : Int32) + (f2 p1)) + (f2 p2)) + (f2 p3)) + (f2 p4)) + (f2 p5)))] [(.int ((((((0 : Int32) + (f2 p1)) + (f2 p2)) + (f2 p3)) + (f2 p4)) + (f2 p5))), (.int (own_cnt [p1, p2, p3, p4, p5]))])) t
                refine XS.icmpYes X12.here hx rfl (pc0 := 128) (pc' := 135) rfl (hb hby at_128) rfl (feq hc128).2 (by decide) (by decide) ?_
                exact kt
              refine OGo.step (F' := T12.setTop (mkF m 136 #[.val (.int p0), .val (.int p1), .val (.int p2), .val (.int p3), .val (.int p4), .val (.int p5), .val (.int ((p0 &&& (2147483647 : Int32)) % (6 : Int32))), .val (.ref b1), .val (.int ((((((0 : Int32) + (f2 p1)) + (f2 p2)) + (f2 p3)) + (f2 p4)) + (f2 p5)))] [(.int (0 : Int32))])) (fun t kt => ?_) ?_
              · show Steps p.tables e below (T12.setTop (mkF m 135 #[.val (.int p0), .val (.int p1), .val (.int p2), .val (.int p3), .val (.int p4), .val (.int p5), .val (.int ((p0 &&& (2147483647 : Int32)) % (6 : Int32))), .val (.ref b1), .val (.int ((((((0 : Int32) + (f2 p1)) + (f2 p2)) + (f2 p3)) + (f2 p4)) + (f2 p5)))] [])) t
                refine XS.iconst X12.here hx rfl (hb hby at_135) ?_
                exact kt
              refine OGo.retZ X12 hx hlk (t := .boolean) (z' := (0 : Int32)) hret (by simp) (hb hby at_136) rfl ?_ (by decide) (by decide)
              show Q0 Z p0 p1 p2 p3 p4 p5 h0 n0 _ T12.heap _
              rw [e12]
              exact ⟨(by rw [f0, if_pos hc20, if_pos hc40, if_pos hc60, if_pos hc80, if_pos hc102, if_neg hc128]), N12, KC10⟩
          · refine OGo.step (F' := T9.setTop (mkF m 121 #[.val (.int p0), .val (.int p1), .val (.int p2), .val (.int p3), .val (.int p4), .val (.int p5), .val (.int ((p0 &&& (2147483647 : Int32)) % (6 : Int32))), .val (.ref b1), .val (.int (((((0 : Int32) + (f2 p1)) + (f2 p2)) + (f2 p3)) + (f2 p4)))] [])) (fun t kt => ?_) ?_
            · show Steps p.tables e below (T9.setTop (mkF m 102 #[.val (.int p0), .val (.int p1), .val (.int p2), .val (.int p3), .val (.int p4), .val (.int p5), .val (.int ((p0 &&& (2147483647 : Int32)) % (6 : Int32))), .val (.ref b1), .val (.int (((((0 : Int32) + (f2 p1)) + (f2 p2)) + (f2 p3)) + (f2 p4)))] [(.int (4 : Int32)), (.int ((p0 &&& (2147483647 : Int32)) % (6 : Int32)))])) t
              refine XS.icmpYes X9.here hx rfl (pc0 := 102) (pc' := 121) rfl (hb hby at_102) rfl (flt hc102).2.2.2 (by decide) (by decide) ?_
              exact kt
            refine OGo.step (F' := T9.setTop (mkF m 123 #[.val (.int p0), .val (.int p1), .val (.int p2), .val (.int p3), .val (.int p4), .val (.int p5), .val (.int ((p0 &&& (2147483647 : Int32)) % (6 : Int32))), .val (.ref b1), .val (.int (((((0 : Int32) + (f2 p1)) + (f2 p2)) + (f2 p3)) + (f2 p4)))] [(.ref b1)])) (fun t kt => ?_) ?_
            · show Steps p.tables e below (T9.setTop (mkF m 121 #[.val (.int p0), .val (.int p1), .val (.int p2), .val (.int p3), .val (.int p4), .val (.int p5), .val (.int ((p0 &&& (2147483647 : Int32)) % (6 : Int32))), .val (.ref b1), .val (.int (((((0 : Int32) + (f2 p1)) + (f2 p2)) + (f2 p3)) + (f2 p4)))] [])) t
              refine XS.aload X9.here hx rfl (hb hby at_121) rfl rfl ?_
              exact kt
            refine OGo.callS X9 hx hZ (y := (⟨"com/example/kette/kette/EcmaPatternReader", "countStates", "([I)I"⟩ : MethodName)) hown (own_wd hw 2 rfl) (own_wd hw 3 rfl) (own_wd hw 4 rfl) (own_wd hw 5 rfl) (by decide) (rm1 l Z az hw [] b1 k1 ((p0 &&& (2147483647 : Int32)) % (6 : Int32)) [(.int p1), (.int p2), (.int p3), (.int p4), (.int (0 : Int32))] [p1, p2, p3, p4] h8 n0 (Nat.le_trans Z0 KC8.1) V8 (own_len p0).1 (own_at _ 4 (Or.inr hc80) (own_len p0).1 hc102 (by decide)).symm (by rw [(own_at _ 4 (Or.inr hc80) (own_len p0).1 hc102 (by decide))]; intro j hj; match j, hj with | 0, _ => rfl | 1, _ => rfl | 2, _ => rfl | 3, _ => rfl)) (W := 0) (by decide) (by decide) (g := (mkF m 123 #[.val (.int p0), .val (.int p1), .val (.int p2), .val (.int p3), .val (.int p4), .val (.int p5), .val (.int ((p0 &&& (2147483647 : Int32)) % (6 : Int32))), .val (.ref b1), .val (.int (((((0 : Int32) + (f2 p1)) + (f2 p2)) + (f2 p3)) + (f2 p4)))] [(.ref b1)])) rfl (by rw [hml]; rfl) (argsL := [(.ref b1)]) (rest := []) (lenOf pd_0_1 rfl) rfl (by show 2 * 0 + _ ≤ _; exact Nat.le_of_eq rfl) (hb hby at_123) rfl e9 (by decide) (by decide) ?_
            rintro _ T13 L13 X13 ⟨rfl, Nq13, e13⟩
            have N13 := Fr.app N9 Nq13
            show OGo _ _ _ _ _ _ _ (T13.setTop (mkF m 126 #[.val (.int p0), .val (.int p1), .val (.int p2), .val (.int p3), .val (.int p4), .val (.int p5), .val (.int ((p0 &&& (2147483647 : Int32)) % (6 : Int32))), .val (.ref b1), .val (.int (((((0 : Int32) + (f2 p1)) + (f2 p2)) + (f2 p3)) + (f2 p4)))] [(.int (own_cnt [p1, p2, p3, p4]))]))
            refine OGo.step (F' := T13.setTop (mkF m 128 #[.val (.int p0), .val (.int p1), .val (.int p2), .val (.int p3), .val (.int p4), .val (.int p5), .val (.int ((p0 &&& (2147483647 : Int32)) % (6 : Int32))), .val (.ref b1), .val (.int (((((0 : Int32) + (f2 p1)) + (f2 p2)) + (f2 p3)) + (f2 p4)))] [(.int (((((0 : Int32) + (f2 p1)) + (f2 p2)) + (f2 p3)) + (f2 p4))), (.int (own_cnt [p1, p2, p3, p4]))])) (fun t kt => ?_) ?_
            · show Steps p.tables e below (T13.setTop (mkF m 126 #[.val (.int p0), .val (.int p1), .val (.int p2), .val (.int p3), .val (.int p4), .val (.int p5), .val (.int ((p0 &&& (2147483647 : Int32)) % (6 : Int32))), .val (.ref b1), .val (.int (((((0 : Int32) + (f2 p1)) + (f2 p2)) + (f2 p3)) + (f2 p4)))] [(.int (own_cnt [p1, p2, p3, p4]))])) t
              refine XS.iload X13.here hx rfl (hb hby at_126) rfl ?_
              exact kt
            by_cases hc128 : (own_cnt [p1, p2, p3, p4]) = (((((0 : Int32) + (f2 p1)) + (f2 p2)) + (f2 p3)) + (f2 p4))
            · refine OGo.step (F' := T13.setTop (mkF m 131 #[.val (.int p0), .val (.int p1), .val (.int p2), .val (.int p3), .val (.int p4), .val (.int p5), .val (.int ((p0 &&& (2147483647 : Int32)) % (6 : Int32))), .val (.ref b1), .val (.int (((((0 : Int32) + (f2 p1)) + (f2 p2)) + (f2 p3)) + (f2 p4)))] [])) (fun t kt => ?_) ?_
              · show Steps p.tables e below (T13.setTop (mkF m 128 #[.val (.int p0), .val (.int p1), .val (.int p2), .val (.int p3), .val (.int p4), .val (.int p5), .val (.int ((p0 &&& (2147483647 : Int32)) % (6 : Int32))), .val (.ref b1), .val (.int (((((0 : Int32) + (f2 p1)) + (f2 p2)) + (f2 p3)) + (f2 p4)))] [(.int (((((0 : Int32) + (f2 p1)) + (f2 p2)) + (f2 p3)) + (f2 p4))), (.int (own_cnt [p1, p2, p3, p4]))])) t
                refine XS.icmpNo X13.here hx rfl (hb hby at_128) rfl (teq hc128).2 ?_
                exact kt
              refine OGo.step (F' := T13.setTop (mkF m 136 #[.val (.int p0), .val (.int p1), .val (.int p2), .val (.int p3), .val (.int p4), .val (.int p5), .val (.int ((p0 &&& (2147483647 : Int32)) % (6 : Int32))), .val (.ref b1), .val (.int (((((0 : Int32) + (f2 p1)) + (f2 p2)) + (f2 p3)) + (f2 p4)))] [(.int (1 : Int32))])) (fun t kt => ?_) ?_
              · show Steps p.tables e below (T13.setTop (mkF m 131 #[.val (.int p0), .val (.int p1), .val (.int p2), .val (.int p3), .val (.int p4), .val (.int p5), .val (.int ((p0 &&& (2147483647 : Int32)) % (6 : Int32))), .val (.ref b1), .val (.int (((((0 : Int32) + (f2 p1)) + (f2 p2)) + (f2 p3)) + (f2 p4)))] [])) t
                refine XS.iconst X13.here hx rfl (hb hby at_131) ?_
                show Steps p.tables e below (T13.setTop (mkF m 132 #[.val (.int p0), .val (.int p1), .val (.int p2), .val (.int p3), .val (.int p4), .val (.int p5), .val (.int ((p0 &&& (2147483647 : Int32)) % (6 : Int32))), .val (.ref b1), .val (.int (((((0 : Int32) + (f2 p1)) + (f2 p2)) + (f2 p3)) + (f2 p4)))] [(.int (1 : Int32))])) t
                refine XS.goto X13.here hx rfl (pc0 := 132) (pc' := 136) rfl (hb hby at_132) (by decide) (by decide) ?_
                exact kt
              refine OGo.retZ X13 hx hlk (t := .boolean) (z' := (1 : Int32)) hret (by simp) (hb hby at_136) rfl ?_ (by decide) (by decide)
              show Q0 Z p0 p1 p2 p3 p4 p5 h0 n0 _ T13.heap _
              rw [e13]
              exact ⟨(by rw [f0, if_pos hc20, if_pos hc40, if_pos hc60, if_pos hc80, if_neg hc102, if_pos hc128]), N13, KC8⟩
            · refine OGo.step (F' := T13.setTop (mkF m 135 #[.val (.int p0), .val (.int p1), .val (.int p2), .val (.int p3), .val (.int p4), .val (.int p5), .val (.int ((p0 &&& (2147483647 : Int32)) % (6 : Int32))), .val (.ref b1), .val (.int (((((0 : Int32) + (f2 p1)) + (f2 p2)) + (f2 p3)) + (f2 p4)))] [])) (fun t kt => ?_) ?_
              · show Steps p.tables e below (T13.setTop (mkF m 128 #[.val (.int p0), .val (.int p1), .val (.int p2), .val (.int p3), .val (.int p4), .val (.int p5), .val (.int ((p0 &&& (2147483647 : Int32)) % (6 : Int32))), .val (.ref b1), .val (.int (((((0 : Int32) + (f2 p1)) + (f2 p2)) + (f2 p3)) + (f2 p4)))] [(.int (((((0 : Int32) + (f2 p1)) + (f2 p2)) + (f2 p3)) + (f2 p4))), (.int (own_cnt [p1, p2, p3, p4]))])) t
                refine XS.icmpYes X13.here hx rfl (pc0 := 128) (pc' := 135) rfl (hb hby at_128) rfl (feq hc128).2 (by decide) (by decide) ?_
                exact kt
              refine OGo.step (F' := T13.setTop (mkF m 136 #[.val (.int p0), .val (.int p1), .val (.int p2), .val (.int p3), .val (.int p4), .val (.int p5), .val (.int ((p0 &&& (2147483647 : Int32)) % (6 : Int32))), .val (.ref b1), .val (.int (((((0 : Int32) + (f2 p1)) + (f2 p2)) + (f2 p3)) + (f2 p4)))] [(.int (0 : Int32))])) (fun t kt => ?_) ?_
              · show Steps p.tables e below (T13.setTop (mkF m 135 #[.val (.int p0), .val (.int p1), .val (.int p2), .val (.int p3), .val (.int p4), .val (.int p5), .val (.int ((p0 &&& (2147483647 : Int32)) % (6 : Int32))), .val (.ref b1), .val (.int (((((0 : Int32) + (f2 p1)) + (f2 p2)) + (f2 p3)) + (f2 p4)))] [])) t
                refine XS.iconst X13.here hx rfl (hb hby at_135) ?_
                exact kt
              refine OGo.retZ X13 hx hlk (t := .boolean) (z' := (0 : Int32)) hret (by simp) (hb hby at_136) rfl ?_ (by decide) (by decide)
              show Q0 Z p0 p1 p2 p3 p4 p5 h0 n0 _ T13.heap _
              rw [e13]
              exact ⟨(by rw [f0, if_pos hc20, if_pos hc40, if_pos hc60, if_pos hc80, if_neg hc102, if_neg hc128]), N13, KC8⟩
        · refine OGo.step (F' := T7.setTop (mkF m 99 #[.val (.int p0), .val (.int p1), .val (.int p2), .val (.int p3), .val (.int p4), .val (.int p5), .val (.int ((p0 &&& (2147483647 : Int32)) % (6 : Int32))), .val (.ref b1), .val (.int ((((0 : Int32) + (f2 p1)) + (f2 p2)) + (f2 p3)))] [])) (fun t kt => ?_) ?_
          · show Steps p.tables e below (T7.setTop (mkF m 80 #[.val (.int p0), .val (.int p1), .val (.int p2), .val (.int p3), .val (.int p4), .val (.int p5), .val (.int ((p0 &&& (2147483647 : Int32)) % (6 : Int32))), .val (.ref b1), .val (.int ((((0 : Int32) + (f2 p1)) + (f2 p2)) + (f2 p3)))] [(.int (3 : Int32)), (.int ((p0 &&& (2147483647 : Int32)) % (6 : Int32)))])) t
            refine XS.icmpYes X7.here hx rfl (pc0 := 80) (pc' := 99) rfl (hb hby at_80) rfl (flt hc80).2.2.2 (by decide) (by decide) ?_
            exact kt
          refine OGo.step (F' := T7.setTop (mkF m 123 #[.val (.int p0), .val (.int p1), .val (.int p2), .val (.int p3), .val (.int p4), .val (.int p5), .val (.int ((p0 &&& (2147483647 : Int32)) % (6 : Int32))), .val (.ref b1), .val (.int ((((0 : Int32) + (f2 p1)) + (f2 p2)) + (f2 p3)))] [(.ref b1)])) (fun t kt => ?_) ?_
          · show Steps p.tables e below (T7.setTop (mkF m 99 #[.val (.int p0), .val (.int p1), .val (.int p2), .val (.int p3), .val (.int p4), .val (.int p5), .val (.int ((p0 &&& (2147483647 : Int32)) % (6 : Int32))), .val (.ref b1), .val (.int ((((0 : Int32) + (f2 p1)) + (f2 p2)) + (f2 p3)))] [])) t
            refine XS.iload X7.here hx rfl (hb hby at_99) rfl ?_
            show Steps p.tables e below (T7.setTop (mkF m 101 #[.val (.int p0), .val (.int p1), .val (.int p2), .val (.int p3), .val (.int p4), .val (.int p5), .val (.int ((p0 &&& (2147483647 : Int32)) % (6 : Int32))), .val (.ref b1), .val (.int ((((0 : Int32) + (f2 p1)) + (f2 p2)) + (f2 p3)))] [(.int ((p0 &&& (2147483647 : Int32)) % (6 : Int32)))])) t
            refine XS.iconst X7.here hx rfl (hb hby at_101) ?_
            show Steps p.tables e below (T7.setTop (mkF m 102 #[.val (.int p0), .val (.int p1), .val (.int p2), .val (.int p3), .val (.int p4), .val (.int p5), .val (.int ((p0 &&& (2147483647 : Int32)) % (6 : Int32))), .val (.ref b1), .val (.int ((((0 : Int32) + (f2 p1)) + (f2 p2)) + (f2 p3)))] [(.int (4 : Int32)), (.int ((p0 &&& (2147483647 : Int32)) % (6 : Int32)))])) t
            refine XS.icmpYes X7.here hx rfl (pc0 := 102) (pc' := 121) rfl (hb hby at_102) rfl (flt (own_dn hc80 (by decide))).2.2.2 (by decide) (by decide) ?_
            show Steps p.tables e below (T7.setTop (mkF m 121 #[.val (.int p0), .val (.int p1), .val (.int p2), .val (.int p3), .val (.int p4), .val (.int p5), .val (.int ((p0 &&& (2147483647 : Int32)) % (6 : Int32))), .val (.ref b1), .val (.int ((((0 : Int32) + (f2 p1)) + (f2 p2)) + (f2 p3)))] [])) t
            refine XS.aload X7.here hx rfl (hb hby at_121) rfl rfl ?_
            exact kt
          refine OGo.callS X7 hx hZ (y := (⟨"com/example/kette/kette/EcmaPatternReader", "countStates", "([I)I"⟩ : MethodName)) hown (own_wd hw 2 rfl) (own_wd hw 3 rfl) (own_wd hw 4 rfl) (own_wd hw 5 rfl) (by decide) (rm1 l Z az hw [] b1 k1 ((p0 &&& (2147483647 : Int32)) % (6 : Int32)) [(.int p1), (.int p2), (.int p3), (.int (0 : Int32)), (.int (0 : Int32))] [p1, p2, p3] h6 n0 (Nat.le_trans Z0 KC6.1) V6 (own_len p0).1 (own_at _ 3 (Or.inr hc60) (own_len p0).1 hc80 (by decide)).symm (by rw [(own_at _ 3 (Or.inr hc60) (own_len p0).1 hc80 (by decide))]; intro j hj; match j, hj with | 0, _ => rfl | 1, _ => rfl | 2, _ => rfl)) (W := 0) (by decide) (by decide) (g := (mkF m 123 #[.val (.int p0), .val (.int p1), .val (.int p2), .val (.int p3), .val (.int p4), .val (.int p5), .val (.int ((p0 &&& (2147483647 : Int32)) % (6 : Int32))), .val (.ref b1), .val (.int ((((0 : Int32) + (f2 p1)) + (f2 p2)) + (f2 p3)))] [(.ref b1)])) rfl (by rw [hml]; rfl) (argsL := [(.ref b1)]) (rest := []) (lenOf pd_0_1 rfl) rfl (by show 2 * 0 + _ ≤ _; exact Nat.le_of_eq rfl) (hb hby at_123) rfl e7 (by decide) (by decide) ?_
          rintro _ T14 L14 X14 ⟨rfl, Nq14, e14⟩
          have N14 := Fr.app N7 Nq14
          show OGo _ _ _ _ _ _ _ (T14.setTop (mkF m 126 #[.val (.int p0), .val (.int p1), .val (.int p2), .val (.int p3), .val (.int p4), .val (.int p5), .val (.int ((p0 &&& (2147483647 : Int32)) % (6 : Int32))), .val (.ref b1), .val (.int ((((0 : Int32) + (f2 p1)) + (f2 p2)) + (f2 p3)))] [(.int (own_cnt [p1, p2, p3]))]))
          refine OGo.step (F' := T14.setTop (mkF m 128 #[.val (.int p0), .val (.int p1), .val (.int p2), .val (.int p3), .val (.int p4), .val (.int p5), .val (.int ((p0 &&& (2147483647 : Int32)) % (6 : Int32))), .val (.ref b1), .val (.int ((((0 : Int32) + (f2 p1)) + (f2 p2)) + (f2 p3)))] [(.int ((((0 : Int32) + (f2 p1)) + (f2 p2)) + (f2 p3))), (.int (own_cnt [p1, p2, p3]))])) (fun t kt => ?_) ?_
          · show Steps p.tables e below (T14.setTop (mkF m 126 #[.val (.int p0), .val (.int p1), .val (.int p2), .val (.int p3), .val (.int p4), .val (.int p5), .val (.int ((p0 &&& (2147483647 : Int32)) % (6 : Int32))), .val (.ref b1), .val (.int ((((0 : Int32) + (f2 p1)) + (f2 p2)) + (f2 p3)))] [(.int (own_cnt [p1, p2, p3]))])) t
            refine XS.iload X14.here hx rfl (hb hby at_126) rfl ?_
            exact kt
          by_cases hc128 : (own_cnt [p1, p2, p3]) = ((((0 : Int32) + (f2 p1)) + (f2 p2)) + (f2 p3))
          · refine OGo.step (F' := T14.setTop (mkF m 131 #[.val (.int p0), .val (.int p1), .val (.int p2), .val (.int p3), .val (.int p4), .val (.int p5), .val (.int ((p0 &&& (2147483647 : Int32)) % (6 : Int32))), .val (.ref b1), .val (.int ((((0 : Int32) + (f2 p1)) + (f2 p2)) + (f2 p3)))] [])) (fun t kt => ?_) ?_
            · show Steps p.tables e below (T14.setTop (mkF m 128 #[.val (.int p0), .val (.int p1), .val (.int p2), .val (.int p3), .val (.int p4), .val (.int p5), .val (.int ((p0 &&& (2147483647 : Int32)) % (6 : Int32))), .val (.ref b1), .val (.int ((((0 : Int32) + (f2 p1)) + (f2 p2)) + (f2 p3)))] [(.int ((((0 : Int32) + (f2 p1)) + (f2 p2)) + (f2 p3))), (.int (own_cnt [p1, p2, p3]))])) t
              refine XS.icmpNo X14.here hx rfl (hb hby at_128) rfl (teq hc128).2 ?_
              exact kt
            refine OGo.step (F' := T14.setTop (mkF m 136 #[.val (.int p0), .val (.int p1), .val (.int p2), .val (.int p3), .val (.int p4), .val (.int p5), .val (.int ((p0 &&& (2147483647 : Int32)) % (6 : Int32))), .val (.ref b1), .val (.int ((((0 : Int32) + (f2 p1)) + (f2 p2)) + (f2 p3)))] [(.int (1 : Int32))])) (fun t kt => ?_) ?_
            · show Steps p.tables e below (T14.setTop (mkF m 131 #[.val (.int p0), .val (.int p1), .val (.int p2), .val (.int p3), .val (.int p4), .val (.int p5), .val (.int ((p0 &&& (2147483647 : Int32)) % (6 : Int32))), .val (.ref b1), .val (.int ((((0 : Int32) + (f2 p1)) + (f2 p2)) + (f2 p3)))] [])) t
              refine XS.iconst X14.here hx rfl (hb hby at_131) ?_
              show Steps p.tables e below (T14.setTop (mkF m 132 #[.val (.int p0), .val (.int p1), .val (.int p2), .val (.int p3), .val (.int p4), .val (.int p5), .val (.int ((p0 &&& (2147483647 : Int32)) % (6 : Int32))), .val (.ref b1), .val (.int ((((0 : Int32) + (f2 p1)) + (f2 p2)) + (f2 p3)))] [(.int (1 : Int32))])) t
              refine XS.goto X14.here hx rfl (pc0 := 132) (pc' := 136) rfl (hb hby at_132) (by decide) (by decide) ?_
              exact kt
            refine OGo.retZ X14 hx hlk (t := .boolean) (z' := (1 : Int32)) hret (by simp) (hb hby at_136) rfl ?_ (by decide) (by decide)
            show Q0 Z p0 p1 p2 p3 p4 p5 h0 n0 _ T14.heap _
            rw [e14]
            exact ⟨(by rw [f0, if_pos hc20, if_pos hc40, if_pos hc60, if_neg hc80, if_pos hc128]), N14, KC6⟩
          · refine OGo.step (F' := T14.setTop (mkF m 135 #[.val (.int p0), .val (.int p1), .val (.int p2), .val (.int p3), .val (.int p4), .val (.int p5), .val (.int ((p0 &&& (2147483647 : Int32)) % (6 : Int32))), .val (.ref b1), .val (.int ((((0 : Int32) + (f2 p1)) + (f2 p2)) + (f2 p3)))] [])) (fun t kt => ?_) ?_
            · show Steps p.tables e below (T14.setTop (mkF m 128 #[.val (.int p0), .val (.int p1), .val (.int p2), .val (.int p3), .val (.int p4), .val (.int p5), .val (.int ((p0 &&& (2147483647 : Int32)) % (6 : Int32))), .val (.ref b1), .val (.int ((((0 : Int32) + (f2 p1)) + (f2 p2)) + (f2 p3)))] [(.int ((((0 : Int32) + (f2 p1)) + (f2 p2)) + (f2 p3))), (.int (own_cnt [p1, p2, p3]))])) t
              refine XS.icmpYes X14.here hx rfl (pc0 := 128) (pc' := 135) rfl (hb hby at_128) rfl (feq hc128).2 (by decide) (by decide) ?_
              exact kt
            refine OGo.step (F' := T14.setTop (mkF m 136 #[.val (.int p0), .val (.int p1), .val (.int p2), .val (.int p3), .val (.int p4), .val (.int p5), .val (.int ((p0 &&& (2147483647 : Int32)) % (6 : Int32))), .val (.ref b1), .val (.int ((((0 : Int32) + (f2 p1)) + (f2 p2)) + (f2 p3)))] [(.int (0 : Int32))])) (fun t kt => ?_) ?_
            · show Steps p.tables e below (T14.setTop (mkF m 135 #[.val (.int p0), .val (.int p1), .val (.int p2), .val (.int p3), .val (.int p4), .val (.int p5), .val (.int ((p0 &&& (2147483647 : Int32)) % (6 : Int32))), .val (.ref b1), .val (.int ((((0 : Int32) + (f2 p1)) + (f2 p2)) + (f2 p3)))] [])) t
              refine XS.iconst X14.here hx rfl (hb hby at_135) ?_
              exact kt
            refine OGo.retZ X14 hx hlk (t := .boolean) (z' := (0 : Int32)) hret (by simp) (hb hby at_136) rfl ?_ (by decide) (by decide)
            show Q0 Z p0 p1 p2 p3 p4 p5 h0 n0 _ T14.heap _
            rw [e14]
            exact ⟨(by rw [f0, if_pos hc20, if_pos hc40, if_pos hc60, if_neg hc80, if_neg hc128]), N14, KC6⟩
      · refine OGo.step (F' := T5.setTop (mkF m 77 #[.val (.int p0), .val (.int p1), .val (.int p2), .val (.int p3), .val (.int p4), .val (.int p5), .val (.int ((p0 &&& (2147483647 : Int32)) % (6 : Int32))), .val (.ref b1), .val (.int (((0 : Int32) + (f2 p1)) + (f2 p2)))] [])) (fun t kt => ?_) ?_
        · show Steps p.tables e below (T5.setTop (mkF m 60 #[.val (.int p0), .val (.int p1), .val (.int p2), .val (.int p3), .val (.int p4), .val (.int p5), .val (.int ((p0 &&& (2147483647 : Int32)) % (6 : Int32))), .val (.ref b1), .val (.int (((0 : Int32) + (f2 p1)) + (f2 p2)))] [(.int (2 : Int32)), (.int ((p0 &&& (2147483647 : Int32)) % (6 : Int32)))])) t
          refine XS.icmpYes X5.here hx rfl (pc0 := 60) (pc' := 77) rfl (hb hby at_60) rfl (flt hc60).2.2.2 (by decide) (by decide) ?_
          exact kt
        refine OGo.step (F' := T5.setTop (mkF m 123 #[.val (.int p0), .val (.int p1), .val (.int p2), .val (.int p3), .val (.int p4), .val (.int p5), .val (.int ((p0 &&& (2147483647 : Int32)) % (6 : Int32))), .val (.ref b1), .val (.int (((0 : Int32) + (f2 p1)) + (f2 p2)))] [(.ref b1)])) (fun t kt => ?_) ?_
        · show Steps p.tables e below (T5.setTop (mkF m 77 #[.val (.int p0), .val (.int p1), .val (.int p2), .val (.int p3), .val (.int p4), .val (.int p5), .val (.int ((p0 &&& (2147483647 : Int32)) % (6 : Int32))), .val (.ref b1), .val (.int (((0 : Int32) + (f2 p1)) + (f2 p2)))] [])) t
          refine XS.iload X5.here hx rfl (hb hby at_77) rfl ?_
          show Steps p.tables e below (T5.setTop (mkF m 79 #[.val (.int p0), .val (.int p1), .val (.int p2), .val (.int p3), .val (.int p4), .val (.int p5), .val (.int ((p0 &&& (2147483647 : Int32)) % (6 : Int32))), .val (.ref b1), .val (.int (((0 : Int32) + (f2 p1)) + (f2 p2)))] [(.int ((p0 &&& (2147483647 : Int32)) % (6 : Int32)))])) t
          refine XS.iconst X5.here hx rfl (hb hby at_79) ?_
          show Steps p.tables e below (T5.setTop (mkF m 80 #[.val (.int p0), .val (.int p1), .val (.int p2), .val (.int p3), .val (.int p4), .val (.int p5), .val (.int ((p0 &&& (2147483647 : Int32)) % (6 : Int32))), .val (.ref b1), .val (.int (((0 : Int32) + (f2 p1)) + (f2 p2)))] [(.int (3 : Int32)), (.int ((p0 &&& (2147483647 : Int32)) % (6 : Int32)))])) t
          refine XS.icmpYes X5.here hx rfl (pc0 := 80) (pc' := 99) rfl (hb hby at_80) rfl (flt (own_dn hc60 (by decide))).2.2.2 (by decide) (by decide) ?_
          show Steps p.tables e below (T5.setTop (mkF m 99 #[.val (.int p0), .val (.int p1), .val (.int p2), .val (.int p3), .val (.int p4), .val (.int p5), .val (.int ((p0 &&& (2147483647 : Int32)) % (6 : Int32))), .val (.ref b1), .val (.int (((0 : Int32) + (f2 p1)) + (f2 p2)))] [])) t
          refine XS.iload X5.here hx rfl (hb hby at_99) rfl ?_
          show Steps p.tables e below (T5.setTop (mkF m 101 #[.val (.int p0), .val (.int p1), .val (.int p2), .val (.int p3), .val (.int p4), .val (.int p5), .val (.int ((p0 &&& (2147483647 : Int32)) % (6 : Int32))), .val (.ref b1), .val (.int (((0 : Int32) + (f2 p1)) + (f2 p2)))] [(.int ((p0 &&& (2147483647 : Int32)) % (6 : Int32)))])) t
          refine XS.iconst X5.here hx rfl (hb hby at_101) ?_
          show Steps p.tables e below (T5.setTop (mkF m 102 #[.val (.int p0), .val (.int p1), .val (.int p2), .val (.int p3), .val (.int p4), .val (.int p5), .val (.int ((p0 &&& (2147483647 : Int32)) % (6 : Int32))), .val (.ref b1), .val (.int (((0 : Int32) + (f2 p1)) + (f2 p2)))] [(.int (4 : Int32)), (.int ((p0 &&& (2147483647 : Int32)) % (6 : Int32)))])) t
          refine XS.icmpYes X5.here hx rfl (pc0 := 102) (pc' := 121) rfl (hb hby at_102) rfl (flt (own_dn hc60 (by decide))).2.2.2 (by decide) (by decide) ?_
          show Steps p.tables e below (T5.setTop (mkF m 121 #[.val (.int p0), .val (.int p1), .val (.int p2), .val (.int p3), .val (.int p4), .val (.int p5), .val (.int ((p0 &&& (2147483647 : Int32)) % (6 : Int32))), .val (.ref b1), .val (.int (((0 : Int32) + (f2 p1)) + (f2 p2)))] [])) t
          refine XS.aload X5.here hx rfl (hb hby at_121) rfl rfl ?_
          exact kt
        refine OGo.callS X5 hx hZ (y := (⟨"com/example/kette/kette/EcmaPatternReader", "countStates", "([I)I"⟩ : MethodName)) hown (own_wd hw 2 rfl) (own_wd hw 3 rfl) (own_wd hw 4 rfl) (own_wd hw 5 rfl) (by decide) (rm1 l Z az hw [] b1 k1 ((p0 &&& (2147483647 : Int32)) % (6 : Int32)) [(.int p1), (.int p2), (.int (0 : Int32)), (.int (0 : Int32)), (.int (0 : Int32))] [p1, p2] h4 n0 (Nat.le_trans Z0 KC4.1) V4 (own_len p0).1 (own_at _ 2 (Or.inr hc40) (own_len p0).1 hc60 (by decide)).symm (by rw [(own_at _ 2 (Or.inr hc40) (own_len p0).1 hc60 (by decide))]; intro j hj; match j, hj with | 0, _ => rfl | 1, _ => rfl)) (W := 0) (by decide) (by decide) (g := (mkF m 123 #[.val (.int p0), .val (.int p1), .val (.int p2), .val (.int p3), .val (.int p4), .val (.int p5), .val (.int ((p0 &&& (2147483647 : Int32)) % (6 : Int32))), .val (.ref b1), .val (.int (((0 : Int32) + (f2 p1)) + (f2 p2)))] [(.ref b1)])) rfl (by rw [hml]; rfl) (argsL := [(.ref b1)]) (rest := []) (lenOf pd_0_1 rfl) rfl (by show 2 * 0 + _ ≤ _; exact Nat.le_of_eq rfl) (hb hby at_123) rfl e5 (by decide) (by decide) ?_
        rintro _ T15 L15 X15 ⟨rfl, Nq15, e15⟩
        have N15 := Fr.app N5 Nq15
        show OGo _ _ _ _ _ _ _ (T15.setTop (mkF m 126 #[.val (.int p0), .val (.int p1), .val (.int p2), .val (.int p3), .val (.int p4), .val (.int p5), .val (.int ((p0 &&& (2147483647 : Int32)) % (6 : Int32))), .val (.ref b1), .val (.int (((0 : Int32) + (f2 p1)) + (f2 p2)))] [(.int (own_cnt [p1, p2]))]))
        refine OGo.step (F' := T15.setTop (mkF m 128 #[.val (.int p0), .val (.int p1), .val (.int p2), .val (.int p3), .val (.int p4), .val (.int p5), .val (.int ((p0 &&& (2147483647 : Int32)) % (6 : Int32))), .val (.ref b1), .val (.int (((0 : Int32) + (f2 p1)) + (f2 p2)))] [(.int (((0 : Int32) + (f2 p1)) + (f2 p2))), (.int (own_cnt [p1, p2]))])) (fun t kt => ?_) ?_
        · show Steps p.tables e below (T15.setTop (mkF m 126 #[.val (.int p0), .val (.int p1), .val (.int p2), .val (.int p3), .val (.int p4), .val (.int p5), .val (.int ((p0 &&& (2147483647 : Int32)) % (6 : Int32))), .val (.ref b1), .val (.int (((0 : Int32) + (f2 p1)) + (f2 p2)))] [(.int (own_cnt [p1, p2]))])) t
          refine XS.iload X15.here hx rfl (hb hby at_126) rfl ?_
          exact kt
        by_cases hc128 : (own_cnt [p1, p2]) = (((0 : Int32) + (f2 p1)) + (f2 p2))
        · refine OGo.step (F' := T15.setTop (mkF m 131 #[.val (.int p0), .val (.int p1), .val (.int p2), .val (.int p3), .val (.int p4), .val (.int p5), .val (.int ((p0 &&& (2147483647 : Int32)) % (6 : Int32))), .val (.ref b1), .val (.int (((0 : Int32) + (f2 p1)) + (f2 p2)))] [])) (fun t kt => ?_) ?_
          · show Steps p.tables e below (T15.setTop (mkF m 128 #[.val (.int p0), .val (.int p1), .val (.int p2), .val (.int p3), .val (.int p4), .val (.int p5), .val (.int ((p0 &&& (2147483647 : Int32)) % (6 : Int32))), .val (.ref b1), .val (.int (((0 : Int32) + (f2 p1)) + (f2 p2)))] [(.int (((0 : Int32) + (f2 p1)) + (f2 p2))), (.int (own_cnt [p1, p2]))])) t
            refine XS.icmpNo X15.here hx rfl (hb hby at_128) rfl (teq hc128).2 ?_
            exact kt
          refine OGo.step (F' := T15.setTop (mkF m 136 #[.val (.int p0), .val (.int p1), .val (.int p2), .val (.int p3), .val (.int p4), .val (.int p5), .val (.int ((p0 &&& (2147483647 : Int32)) % (6 : Int32))), .val (.ref b1), .val (.int (((0 : Int32) + (f2 p1)) + (f2 p2)))] [(.int (1 : Int32))])) (fun t kt => ?_) ?_
          · show Steps p.tables e below (T15.setTop (mkF m 131 #[.val (.int p0), .val (.int p1), .val (.int p2), .val (.int p3), .val (.int p4), .val (.int p5), .val (.int ((p0 &&& (2147483647 : Int32)) % (6 : Int32))), .val (.ref b1), .val (.int (((0 : Int32) + (f2 p1)) + (f2 p2)))] [])) t
            refine XS.iconst X15.here hx rfl (hb hby at_131) ?_
            show Steps p.tables e below (T15.setTop (mkF m 132 #[.val (.int p0), .val (.int p1), .val (.int p2), .val (.int p3), .val (.int p4), .val (.int p5), .val (.int ((p0 &&& (2147483647 : Int32)) % (6 : Int32))), .val (.ref b1), .val (.int (((0 : Int32) + (f2 p1)) + (f2 p2)))] [(.int (1 : Int32))])) t
            refine XS.goto X15.here hx rfl (pc0 := 132) (pc' := 136) rfl (hb hby at_132) (by decide) (by decide) ?_
            exact kt
          refine OGo.retZ X15 hx hlk (t := .boolean) (z' := (1 : Int32)) hret (by simp) (hb hby at_136) rfl ?_ (by decide) (by decide)
          show Q0 Z p0 p1 p2 p3 p4 p5 h0 n0 _ T15.heap _
          rw [e15]
          exact ⟨(by rw [f0, if_pos hc20, if_pos hc40, if_neg hc60, if_pos hc128]), N15, KC4⟩
        · refine OGo.step (F' := T15.setTop (mkF m 135 #[.val (.int p0), .val (.int p1), .val (.int p2), .val (.int p3), .val (.int p4), .val (.int p5), .val (.int ((p0 &&& (2147483647 : Int32)) % (6 : Int32))), .val (.ref b1), .val (.int (((0 : Int32) + (f2 p1)) + (f2 p2)))] [])) (fun t kt => ?_) ?_
          · show Steps p.tables e below (T15.setTop (mkF m 128 #[.val (.int p0), .val (.int p1), .val (.int p2), .val (.int p3), .val (.int p4), .val (.int p5), .val (.int ((p0 &&& (2147483647 : Int32)) % (6 : Int32))), .val (.ref b1), .val (.int (((0 : Int32) + (f2 p1)) + (f2 p2)))] [(.int (((0 : Int32) + (f2 p1)) + (f2 p2))), (.int (own_cnt [p1, p2]))])) t
            refine XS.icmpYes X15.here hx rfl (pc0 := 128) (pc' := 135) rfl (hb hby at_128) rfl (feq hc128).2 (by decide) (by decide) ?_
            exact kt
          refine OGo.step (F' := T15.setTop (mkF m 136 #[.val (.int p0), .val (.int p1), .val (.int p2), .val (.int p3), .val (.int p4), .val (.int p5), .val (.int ((p0 &&& (2147483647 : Int32)) % (6 : Int32))), .val (.ref b1), .val (.int (((0 : Int32) + (f2 p1)) + (f2 p2)))] [(.int (0 : Int32))])) (fun t kt => ?_) ?_
          · show Steps p.tables e below (T15.setTop (mkF m 135 #[.val (.int p0), .val (.int p1), .val (.int p2), .val (.int p3), .val (.int p4), .val (.int p5), .val (.int ((p0 &&& (2147483647 : Int32)) % (6 : Int32))), .val (.ref b1), .val (.int (((0 : Int32) + (f2 p1)) + (f2 p2)))] [])) t
            refine XS.iconst X15.here hx rfl (hb hby at_135) ?_
            exact kt
          refine OGo.retZ X15 hx hlk (t := .boolean) (z' := (0 : Int32)) hret (by simp) (hb hby at_136) rfl ?_ (by decide) (by decide)
          show Q0 Z p0 p1 p2 p3 p4 p5 h0 n0 _ T15.heap _
          rw [e15]
          exact ⟨(by rw [f0, if_pos hc20, if_pos hc40, if_neg hc60, if_neg hc128]), N15, KC4⟩
    · refine OGo.step (F' := T3.setTop (mkF m 57 #[.val (.int p0), .val (.int p1), .val (.int p2), .val (.int p3), .val (.int p4), .val (.int p5), .val (.int ((p0 &&& (2147483647 : Int32)) % (6 : Int32))), .val (.ref b1), .val (.int ((0 : Int32) + (f2 p1)))] [])) (fun t kt => ?_) ?_
      · show Steps p.tables e below (T3.setTop (mkF m 40 #[.val (.int p0), .val (.int p1), .val (.int p2), .val (.int p3), .val (.int p4), .val (.int p5), .val (.int ((p0 &&& (2147483647 : Int32)) % (6 : Int32))), .val (.ref b1), .val (.int ((0 : Int32) + (f2 p1)))] [(.int (1 : Int32)), (.int ((p0 &&& (2147483647 : Int32)) % (6 : Int32)))])) t
        refine XS.icmpYes X3.here hx rfl (pc0 := 40) (pc' := 57) rfl (hb hby at_40) rfl (flt hc40).2.2.2 (by decide) (by decide) ?_
        exact kt
      refine OGo.step (F' := T3.setTop (mkF m 123 #[.val (.int p0), .val (.int p1), .val (.int p2), .val (.int p3), .val (.int p4), .val (.int p5), .val (.int ((p0 &&& (2147483647 : Int32)) % (6 : Int32))), .val (.ref b1), .val (.int ((0 : Int32) + (f2 p1)))] [(.ref b1)])) (fun t kt => ?_) ?_
      · show Steps p.tables e below (T3.setTop (mkF m 57 #[.val (.int p0), .val (.int p1), .val (.int p2), .val (.int p3), .val (.int p4), .val (.int p5), .val (.int ((p0 &&& (2147483647 : Int32)) % (6 : Int32))), .val (.ref b1), .val (.int ((0 : Int32) + (f2 p1)))] [])) t
        refine XS.iload X3.here hx rfl (hb hby at_57) rfl ?_
        show Steps p.tables e below (T3.setTop (mkF m 59 #[.val (.int p0), .val (.int p1), .val (.int p2), .val (.int p3), .val (.int p4), .val (.int p5), .val (.int ((p0 &&& (2147483647 : Int32)) % (6 : Int32))), .val (.ref b1), .val (.int ((0 : Int32) + (f2 p1)))] [(.int ((p0 &&& (2147483647 : Int32)) % (6 : Int32)))])) t
        refine XS.iconst X3.here hx rfl (hb hby at_59) ?_
        show Steps p.tables e below (T3.setTop (mkF m 60 #[.val (.int p0), .val (.int p1), .val (.int p2), .val (.int p3), .val (.int p4), .val (.int p5), .val (.int ((p0 &&& (2147483647 : Int32)) % (6 : Int32))), .val (.ref b1), .val (.int ((0 : Int32) + (f2 p1)))] [(.int (2 : Int32)), (.int ((p0 &&& (2147483647 : Int32)) % (6 : Int32)))])) t
        refine XS.icmpYes X3.here hx rfl (pc0 := 60) (pc' := 77) rfl (hb hby at_60) rfl (flt (own_dn hc40 (by decide))).2.2.2 (by decide) (by decide) ?_
        show Steps p.tables e below (T3.setTop (mkF m 77 #[.val (.int p0), .val (.int p1), .val (.int p2), .val (.int p3), .val (.int p4), .val (.int p5), .val (.int ((p0 &&& (2147483647 : Int32)) % (6 : Int32))), .val (.ref b1), .val (.int ((0 : Int32) + (f2 p1)))] [])) t
        refine XS.iload X3.here hx rfl (hb hby at_77) rfl ?_
        show Steps p.tables e below (T3.setTop (mkF m 79 #[.val (.int p0), .val (.int p1), .val (.int p2), .val (.int p3), .val (.int p4), .val (.int p5), .val (.int ((p0 &&& (2147483647 : Int32)) % (6 : Int32))), .val (.ref b1), .val (.int ((0 : Int32) + (f2 p1)))] [(.int ((p0 &&& (2147483647 : Int32)) % (6 : Int32)))])) t
        refine XS.iconst X3.here hx rfl (hb hby at_79) ?_
        show Steps p.tables e below (T3.setTop (mkF m 80 #[.val (.int p0), .val (.int p1), .val (.int p2), .val (.int p3), .val (.int p4), .val (.int p5), .val (.int ((p0 &&& (2147483647 : Int32)) % (6 : Int32))), .val (.ref b1), .val (.int ((0 : Int32) + (f2 p1)))] [(.int (3 : Int32)), (.int ((p0 &&& (2147483647 : Int32)) % (6 : Int32)))])) t
        refine XS.icmpYes X3.here hx rfl (pc0 := 80) (pc' := 99) rfl (hb hby at_80) rfl (flt (own_dn hc40 (by decide))).2.2.2 (by decide) (by decide) ?_
        show Steps p.tables e below (T3.setTop (mkF m 99 #[.val (.int p0), .val (.int p1), .val (.int p2), .val (.int p3), .val (.int p4), .val (.int p5), .val (.int ((p0 &&& (2147483647 : Int32)) % (6 : Int32))), .val (.ref b1), .val (.int ((0 : Int32) + (f2 p1)))] [])) t
        refine XS.iload X3.here hx rfl (hb hby at_99) rfl ?_
        show Steps p.tables e below (T3.setTop (mkF m 101 #[.val (.int p0), .val (.int p1), .val (.int p2), .val (.int p3), .val (.int p4), .val (.int p5), .val (.int ((p0 &&& (2147483647 : Int32)) % (6 : Int32))), .val (.ref b1), .val (.int ((0 : Int32) + (f2 p1)))] [(.int ((p0 &&& (2147483647 : Int32)) % (6 : Int32)))])) t
        refine XS.iconst X3.here hx rfl (hb hby at_101) ?_
        show Steps p.tables e below (T3.setTop (mkF m 102 #[.val (.int p0), .val (.int p1), .val (.int p2), .val (.int p3), .val (.int p4), .val (.int p5), .val (.int ((p0 &&& (2147483647 : Int32)) % (6 : Int32))), .val (.ref b1), .val (.int ((0 : Int32) + (f2 p1)))] [(.int (4 : Int32)), (.int ((p0 &&& (2147483647 : Int32)) % (6 : Int32)))])) t
        refine XS.icmpYes X3.here hx rfl (pc0 := 102) (pc' := 121) rfl (hb hby at_102) rfl (flt (own_dn hc40 (by decide))).2.2.2 (by decide) (by decide) ?_
        show Steps p.tables e below (T3.setTop (mkF m 121 #[.val (.int p0), .val (.int p1), .val (.int p2), .val (.int p3), .val (.int p4), .val (.int p5), .val (.int ((p0 &&& (2147483647 : Int32)) % (6 : Int32))), .val (.ref b1), .val (.int ((0 : Int32) + (f2 p1)))] [])) t
        refine XS.aload X3.here hx rfl (hb hby at_121) rfl rfl ?_
        exact kt
      refine OGo.callS X3 hx hZ (y := (⟨"com/example/kette/kette/EcmaPatternReader", "countStates", "([I)I"⟩ : MethodName)) hown (own_wd hw 2 rfl) (own_wd hw 3 rfl) (own_wd hw 4 rfl) (own_wd hw 5 rfl) (by decide) (rm1 l Z az hw [] b1 k1 ((p0 &&& (2147483647 : Int32)) % (6 : Int32)) [(.int p1), (.int (0 : Int32)), (.int (0 : Int32)), (.int (0 : Int32)), (.int (0 : Int32))] [p1] h2 n0 (Nat.le_trans Z0 KC2.1) V2 (own_len p0).1 (own_at _ 1 (Or.inr hc20) (own_len p0).1 hc40 (by decide)).symm (by rw [(own_at _ 1 (Or.inr hc20) (own_len p0).1 hc40 (by decide))]; intro j hj; match j, hj with | 0, _ => rfl)) (W := 0) (by decide) (by decide) (g := (mkF m 123 #[.val (.int p0), .val (.int p1), .val (.int p2), .val (.int p3), .val (.int p4), .val (.int p5), .val (.int ((p0 &&& (2147483647 : Int32)) % (6 : Int32))), .val (.ref b1), .val (.int ((0 : Int32) + (f2 p1)))] [(.ref b1)])) rfl (by rw [hml]; rfl) (argsL := [(.ref b1)]) (rest := []) (lenOf pd_0_1 rfl) rfl (by show 2 * 0 + _ ≤ _; exact Nat.le_of_eq rfl) (hb hby at_123) rfl e3 (by decide) (by decide) ?_
      rintro _ T16 L16 X16 ⟨rfl, Nq16, e16⟩
      have N16 := Fr.app N3 Nq16
      show OGo _ _ _ _ _ _ _ (T16.setTop (mkF m 126 #[.val (.int p0), .val (.int p1), .val (.int p2), .val (.int p3), .val (.int p4), .val (.int p5), .val (.int ((p0 &&& (2147483647 : Int32)) % (6 : Int32))), .val (.ref b1), .val (.int ((0 : Int32) + (f2 p1)))] [(.int (own_cnt [p1]))]))
      refine OGo.step (F' := T16.setTop (mkF m 128 #[.val (.int p0), .val (.int p1), .val (.int p2), .val (.int p3), .val (.int p4), .val (.int p5), .val (.int ((p0 &&& (2147483647 : Int32)) % (6 : Int32))), .val (.ref b1), .val (.int ((0 : Int32) + (f2 p1)))] [(.int ((0 : Int32) + (f2 p1))), (.int (own_cnt [p1]))])) (fun t kt => ?_) ?_
      · show Steps p.tables e below (T16.setTop (mkF m 126 #[.val (.int p0), .val (.int p1), .val (.int p2), .val (.int p3), .val (.int p4), .val (.int p5), .val (.int ((p0 &&& (2147483647 : Int32)) % (6 : Int32))), .val (.ref b1), .val (.int ((0 : Int32) + (f2 p1)))] [(.int (own_cnt [p1]))])) t
        refine XS.iload X16.here hx rfl (hb hby at_126) rfl ?_
        exact kt
      by_cases hc128 : (own_cnt [p1]) = ((0 : Int32) + (f2 p1))
      · refine OGo.step (F' := T16.setTop (mkF m 131 #[.val (.int p0), .val (.int p1), .val (.int p2), .val (.int p3), .val (.int p4), .val (.int p5), .val (.int ((p0 &&& (2147483647 : Int32)) % (6 : Int32))), .val (.ref b1), .val (.int ((0 : Int32) + (f2 p1)))] [])) (fun t kt => ?_) ?_
        · show Steps p.tables e below (T16.setTop (mkF m 128 #[.val (.int p0), .val (.int p1), .val (.int p2), .val (.int p3), .val (.int p4), .val (.int p5), .val (.int ((p0 &&& (2147483647 : Int32)) % (6 : Int32))), .val (.ref b1), .val (.int ((0 : Int32) + (f2 p1)))] [(.int ((0 : Int32) + (f2 p1))), (.int (own_cnt [p1]))])) t
          refine XS.icmpNo X16.here hx rfl (hb hby at_128) rfl (teq hc128).2 ?_
          exact kt
        refine OGo.step (F' := T16.setTop (mkF m 136 #[.val (.int p0), .val (.int p1), .val (.int p2), .val (.int p3), .val (.int p4), .val (.int p5), .val (.int ((p0 &&& (2147483647 : Int32)) % (6 : Int32))), .val (.ref b1), .val (.int ((0 : Int32) + (f2 p1)))] [(.int (1 : Int32))])) (fun t kt => ?_) ?_
        · show Steps p.tables e below (T16.setTop (mkF m 131 #[.val (.int p0), .val (.int p1), .val (.int p2), .val (.int p3), .val (.int p4), .val (.int p5), .val (.int ((p0 &&& (2147483647 : Int32)) % (6 : Int32))), .val (.ref b1), .val (.int ((0 : Int32) + (f2 p1)))] [])) t
          refine XS.iconst X16.here hx rfl (hb hby at_131) ?_
          show Steps p.tables e below (T16.setTop (mkF m 132 #[.val (.int p0), .val (.int p1), .val (.int p2), .val (.int p3), .val (.int p4), .val (.int p5), .val (.int ((p0 &&& (2147483647 : Int32)) % (6 : Int32))), .val (.ref b1), .val (.int ((0 : Int32) + (f2 p1)))] [(.int (1 : Int32))])) t
          refine XS.goto X16.here hx rfl (pc0 := 132) (pc' := 136) rfl (hb hby at_132) (by decide) (by decide) ?_
          exact kt
        refine OGo.retZ X16 hx hlk (t := .boolean) (z' := (1 : Int32)) hret (by simp) (hb hby at_136) rfl ?_ (by decide) (by decide)
        show Q0 Z p0 p1 p2 p3 p4 p5 h0 n0 _ T16.heap _
        rw [e16]
        exact ⟨(by rw [f0, if_pos hc20, if_neg hc40, if_pos hc128]), N16, KC2⟩
      · refine OGo.step (F' := T16.setTop (mkF m 135 #[.val (.int p0), .val (.int p1), .val (.int p2), .val (.int p3), .val (.int p4), .val (.int p5), .val (.int ((p0 &&& (2147483647 : Int32)) % (6 : Int32))), .val (.ref b1), .val (.int ((0 : Int32) + (f2 p1)))] [])) (fun t kt => ?_) ?_
        · show Steps p.tables e below (T16.setTop (mkF m 128 #[.val (.int p0), .val (.int p1), .val (.int p2), .val (.int p3), .val (.int p4), .val (.int p5), .val (.int ((p0 &&& (2147483647 : Int32)) % (6 : Int32))), .val (.ref b1), .val (.int ((0 : Int32) + (f2 p1)))] [(.int ((0 : Int32) + (f2 p1))), (.int (own_cnt [p1]))])) t
          refine XS.icmpYes X16.here hx rfl (pc0 := 128) (pc' := 135) rfl (hb hby at_128) rfl (feq hc128).2 (by decide) (by decide) ?_
          exact kt
        refine OGo.step (F' := T16.setTop (mkF m 136 #[.val (.int p0), .val (.int p1), .val (.int p2), .val (.int p3), .val (.int p4), .val (.int p5), .val (.int ((p0 &&& (2147483647 : Int32)) % (6 : Int32))), .val (.ref b1), .val (.int ((0 : Int32) + (f2 p1)))] [(.int (0 : Int32))])) (fun t kt => ?_) ?_
        · show Steps p.tables e below (T16.setTop (mkF m 135 #[.val (.int p0), .val (.int p1), .val (.int p2), .val (.int p3), .val (.int p4), .val (.int p5), .val (.int ((p0 &&& (2147483647 : Int32)) % (6 : Int32))), .val (.ref b1), .val (.int ((0 : Int32) + (f2 p1)))] [])) t
          refine XS.iconst X16.here hx rfl (hb hby at_135) ?_
          exact kt
        refine OGo.retZ X16 hx hlk (t := .boolean) (z' := (0 : Int32)) hret (by simp) (hb hby at_136) rfl ?_ (by decide) (by decide)
        show Q0 Z p0 p1 p2 p3 p4 p5 h0 n0 _ T16.heap _
        rw [e16]
        exact ⟨(by rw [f0, if_pos hc20, if_neg hc40, if_neg hc128]), N16, KC2⟩
  · refine OGo.step (F' := T1.setTop (mkF m 37 #[.val (.int p0), .val (.int p1), .val (.int p2), .val (.int p3), .val (.int p4), .val (.int p5), .val (.int ((p0 &&& (2147483647 : Int32)) % (6 : Int32))), .val (.ref b1), .val (.int (0 : Int32))] [])) (fun t kt => ?_) ?_
    · show Steps p.tables e below (T1.setTop (mkF m 20 #[.val (.int p0), .val (.int p1), .val (.int p2), .val (.int p3), .val (.int p4), .val (.int p5), .val (.int ((p0 &&& (2147483647 : Int32)) % (6 : Int32))), .val (.ref b1), .val (.int (0 : Int32))] [(.int ((p0 &&& (2147483647 : Int32)) % (6 : Int32)))])) t
      refine XS.ifYes X1.here hx rfl (pc0 := 20) (pc' := 37) rfl (hb hby at_20) rfl ((if0 _ _).trans (flt hc20).2.2.2) (by decide) (by decide) ?_
      exact kt
    refine OGo.step (F' := T1.setTop (mkF m 123 #[.val (.int p0), .val (.int p1), .val (.int p2), .val (.int p3), .val (.int p4), .val (.int p5), .val (.int ((p0 &&& (2147483647 : Int32)) % (6 : Int32))), .val (.ref b1), .val (.int (0 : Int32))] [(.ref b1)])) (fun t kt => ?_) ?_
    · show Steps p.tables e below (T1.setTop (mkF m 37 #[.val (.int p0), .val (.int p1), .val (.int p2), .val (.int p3), .val (.int p4), .val (.int p5), .val (.int ((p0 &&& (2147483647 : Int32)) % (6 : Int32))), .val (.ref b1), .val (.int (0 : Int32))] [])) t
      refine XS.iload X1.here hx rfl (hb hby at_37) rfl ?_
      show Steps p.tables e below (T1.setTop (mkF m 39 #[.val (.int p0), .val (.int p1), .val (.int p2), .val (.int p3), .val (.int p4), .val (.int p5), .val (.int ((p0 &&& (2147483647 : Int32)) % (6 : Int32))), .val (.ref b1), .val (.int (0 : Int32))] [(.int ((p0 &&& (2147483647 : Int32)) % (6 : Int32)))])) t
      refine XS.iconst X1.here hx rfl (hb hby at_39) ?_
      show Steps p.tables e below (T1.setTop (mkF m 40 #[.val (.int p0), .val (.int p1), .val (.int p2), .val (.int p3), .val (.int p4), .val (.int p5), .val (.int ((p0 &&& (2147483647 : Int32)) % (6 : Int32))), .val (.ref b1), .val (.int (0 : Int32))] [(.int (1 : Int32)), (.int ((p0 &&& (2147483647 : Int32)) % (6 : Int32)))])) t
      refine XS.icmpYes X1.here hx rfl (pc0 := 40) (pc' := 57) rfl (hb hby at_40) rfl (flt (own_dn hc20 (by decide))).2.2.2 (by decide) (by decide) ?_
      show Steps p.tables e below (T1.setTop (mkF m 57 #[.val (.int p0), .val (.int p1), .val (.int p2), .val (.int p3), .val (.int p4), .val (.int p5), .val (.int ((p0 &&& (2147483647 : Int32)) % (6 : Int32))), .val (.ref b1), .val (.int (0 : Int32))] [])) t
      refine XS.iload X1.here hx rfl (hb hby at_57) rfl ?_
      show Steps p.tables e below (T1.setTop (mkF m 59 #[.val (.int p0), .val (.int p1), .val (.int p2), .val (.int p3), .val (.int p4), .val (.int p5), .val (.int ((p0 &&& (2147483647 : Int32)) % (6 : Int32))), .val (.ref b1), .val (.int (0 : Int32))] [(.int ((p0 &&& (2147483647 : Int32)) % (6 : Int32)))])) t
      refine XS.iconst X1.here hx rfl (hb hby at_59) ?_
      show Steps p.tables e below (T1.setTop (mkF m 60 #[.val (.int p0), .val (.int p1), .val (.int p2), .val (.int p3), .val (.int p4), .val (.int p5), .val (.int ((p0 &&& (2147483647 : Int32)) % (6 : Int32))), .val (.ref b1), .val (.int (0 : Int32))] [(.int (2 : Int32)), (.int ((p0 &&& (2147483647 : Int32)) % (6 : Int32)))])) t
      refine XS.icmpYes X1.here hx rfl (pc0 := 60) (pc' := 77) rfl (hb hby at_60) rfl (flt (own_dn hc20 (by decide))).2.2.2 (by decide) (by decide) ?_
      show Steps p.tables e below (T1.setTop (mkF m 77 #[.val (.int p0), .val (.int p1), .val (.int p2), .val (.int p3), .val (.int p4), .val (.int p5), .val (.int ((p0 &&& (2147483647 : Int32)) % (6 : Int32))), .val (.ref b1), .val (.int (0 : Int32))] [])) t
      refine XS.iload X1.here hx rfl (hb hby at_77) rfl ?_
      show Steps p.tables e below (T1.setTop (mkF m 79 #[.val (.int p0), .val (.int p1), .val (.int p2), .val (.int p3), .val (.int p4), .val (.int p5), .val (.int ((p0 &&& (2147483647 : Int32)) % (6 : Int32))), .val (.ref b1), .val (.int (0 : Int32))] [(.int ((p0 &&& (2147483647 : Int32)) % (6 : Int32)))])) t
      refine XS.iconst X1.here hx rfl (hb hby at_79) ?_
      show Steps p.tables e below (T1.setTop (mkF m 80 #[.val (.int p0), .val (.int p1), .val (.int p2), .val (.int p3), .val (.int p4), .val (.int p5), .val (.int ((p0 &&& (2147483647 : Int32)) % (6 : Int32))), .val (.ref b1), .val (.int (0 : Int32))] [(.int (3 : Int32)), (.int ((p0 &&& (2147483647 : Int32)) % (6 : Int32)))])) t
      refine XS.icmpYes X1.here hx rfl (pc0 := 80) (pc' := 99) rfl (hb hby at_80) rfl (flt (own_dn hc20 (by decide))).2.2.2 (by decide) (by decide) ?_
      show Steps p.tables e below (T1.setTop (mkF m 99 #[.val (.int p0), .val (.int p1), .val (.int p2), .val (.int p3), .val (.int p4), .val (.int p5), .val (.int ((p0 &&& (2147483647 : Int32)) % (6 : Int32))), .val (.ref b1), .val (.int (0 : Int32))] [])) t
      refine XS.iload X1.here hx rfl (hb hby at_99) rfl ?_
      show Steps p.tables e below (T1.setTop (mkF m 101 #[.val (.int p0), .val (.int p1), .val (.int p2), .val (.int p3), .val (.int p4), .val (.int p5), .val (.int ((p0 &&& (2147483647 : Int32)) % (6 : Int32))), .val (.ref b1), .val (.int (0 : Int32))] [(.int ((p0 &&& (2147483647 : Int32)) % (6 : Int32)))])) t
      refine XS.iconst X1.here hx rfl (hb hby at_101) ?_
      show Steps p.tables e below (T1.setTop (mkF m 102 #[.val (.int p0), .val (.int p1), .val (.int p2), .val (.int p3), .val (.int p4), .val (.int p5), .val (.int ((p0 &&& (2147483647 : Int32)) % (6 : Int32))), .val (.ref b1), .val (.int (0 : Int32))] [(.int (4 : Int32)), (.int ((p0 &&& (2147483647 : Int32)) % (6 : Int32)))])) t
      refine XS.icmpYes X1.here hx rfl (pc0 := 102) (pc' := 121) rfl (hb hby at_102) rfl (flt (own_dn hc20 (by decide))).2.2.2 (by decide) (by decide) ?_
      show Steps p.tables e below (T1.setTop (mkF m 121 #[.val (.int p0), .val (.int p1), .val (.int p2), .val (.int p3), .val (.int p4), .val (.int p5), .val (.int ((p0 &&& (2147483647 : Int32)) % (6 : Int32))), .val (.ref b1), .val (.int (0 : Int32))] [])) t
      refine XS.aload X1.here hx rfl (hb hby at_121) rfl rfl ?_
      exact kt
    refine OGo.callS X1 hx hZ (y := (⟨"com/example/kette/kette/EcmaPatternReader", "countStates", "([I)I"⟩ : MethodName)) hown (own_wd hw 2 rfl) (own_wd hw 3 rfl) (own_wd hw 4 rfl) (own_wd hw 5 rfl) (by decide) (rm1 l Z az hw [] b1 k1 ((p0 &&& (2147483647 : Int32)) % (6 : Int32)) [(.int (0 : Int32)), (.int (0 : Int32)), (.int (0 : Int32)), (.int (0 : Int32)), (.int (0 : Int32))] [] h1 n0 (Nat.le_trans Z0 KC1.1) V1 (own_len p0).1 (own_at _ 0 (Or.inl rfl) (own_len p0).1 hc20 (by decide)).symm (by rw [(own_at _ 0 (Or.inl rfl) (own_len p0).1 hc20 (by decide))]; intro j hj; exact absurd hj (Nat.not_lt_zero _))) (W := 0) (by decide) (by decide) (g := (mkF m 123 #[.val (.int p0), .val (.int p1), .val (.int p2), .val (.int p3), .val (.int p4), .val (.int p5), .val (.int ((p0 &&& (2147483647 : Int32)) % (6 : Int32))), .val (.ref b1), .val (.int (0 : Int32))] [(.ref b1)])) rfl (by rw [hml]; rfl) (argsL := [(.ref b1)]) (rest := []) (lenOf pd_0_1 rfl) rfl (by show 2 * 0 + _ ≤ _; exact Nat.le_of_eq rfl) (hb hby at_123) rfl e1 (by decide) (by decide) ?_
    rintro _ T17 L17 X17 ⟨rfl, Nq17, e17⟩
    have N17 := Fr.app N0 Nq17
    show OGo _ _ _ _ _ _ _ (T17.setTop (mkF m 126 #[.val (.int p0), .val (.int p1), .val (.int p2), .val (.int p3), .val (.int p4), .val (.int p5), .val (.int ((p0 &&& (2147483647 : Int32)) % (6 : Int32))), .val (.ref b1), .val (.int (0 : Int32))] [(.int (own_cnt []))]))
    refine OGo.step (F' := T17.setTop (mkF m 128 #[.val (.int p0), .val (.int p1), .val (.int p2), .val (.int p3), .val (.int p4), .val (.int p5), .val (.int ((p0 &&& (2147483647 : Int32)) % (6 : Int32))), .val (.ref b1), .val (.int (0 : Int32))] [(.int (0 : Int32)), (.int (own_cnt []))])) (fun t kt => ?_) ?_
    · show Steps p.tables e below (T17.setTop (mkF m 126 #[.val (.int p0), .val (.int p1), .val (.int p2), .val (.int p3), .val (.int p4), .val (.int p5), .val (.int ((p0 &&& (2147483647 : Int32)) % (6 : Int32))), .val (.ref b1), .val (.int (0 : Int32))] [(.int (own_cnt []))])) t
      refine XS.iload X17.here hx rfl (hb hby at_126) rfl ?_
      exact kt
    by_cases hc128 : (own_cnt []) = (0 : Int32)
    · refine OGo.step (F' := T17.setTop (mkF m 131 #[.val (.int p0), .val (.int p1), .val (.int p2), .val (.int p3), .val (.int p4), .val (.int p5), .val (.int ((p0 &&& (2147483647 : Int32)) % (6 : Int32))), .val (.ref b1), .val (.int (0 : Int32))] [])) (fun t kt => ?_) ?_
      · show Steps p.tables e below (T17.setTop (mkF m 128 #[.val (.int p0), .val (.int p1), .val (.int p2), .val (.int p3), .val (.int p4), .val (.int p5), .val (.int ((p0 &&& (2147483647 : Int32)) % (6 : Int32))), .val (.ref b1), .val (.int (0 : Int32))] [(.int (0 : Int32)), (.int (own_cnt []))])) t
        refine XS.icmpNo X17.here hx rfl (hb hby at_128) rfl (teq hc128).2 ?_
        exact kt
      refine OGo.step (F' := T17.setTop (mkF m 136 #[.val (.int p0), .val (.int p1), .val (.int p2), .val (.int p3), .val (.int p4), .val (.int p5), .val (.int ((p0 &&& (2147483647 : Int32)) % (6 : Int32))), .val (.ref b1), .val (.int (0 : Int32))] [(.int (1 : Int32))])) (fun t kt => ?_) ?_
      · show Steps p.tables e below (T17.setTop (mkF m 131 #[.val (.int p0), .val (.int p1), .val (.int p2), .val (.int p3), .val (.int p4), .val (.int p5), .val (.int ((p0 &&& (2147483647 : Int32)) % (6 : Int32))), .val (.ref b1), .val (.int (0 : Int32))] [])) t
        refine XS.iconst X17.here hx rfl (hb hby at_131) ?_
        show Steps p.tables e below (T17.setTop (mkF m 132 #[.val (.int p0), .val (.int p1), .val (.int p2), .val (.int p3), .val (.int p4), .val (.int p5), .val (.int ((p0 &&& (2147483647 : Int32)) % (6 : Int32))), .val (.ref b1), .val (.int (0 : Int32))] [(.int (1 : Int32))])) t
        refine XS.goto X17.here hx rfl (pc0 := 132) (pc' := 136) rfl (hb hby at_132) (by decide) (by decide) ?_
        exact kt
      refine OGo.retZ X17 hx hlk (t := .boolean) (z' := (1 : Int32)) hret (by simp) (hb hby at_136) rfl ?_ (by decide) (by decide)
      show Q0 Z p0 p1 p2 p3 p4 p5 h0 n0 _ T17.heap _
      rw [e17]
      exact ⟨(by rw [f0, if_neg hc20, if_pos hc128]), N17, KC1⟩
    · refine OGo.step (F' := T17.setTop (mkF m 135 #[.val (.int p0), .val (.int p1), .val (.int p2), .val (.int p3), .val (.int p4), .val (.int p5), .val (.int ((p0 &&& (2147483647 : Int32)) % (6 : Int32))), .val (.ref b1), .val (.int (0 : Int32))] [])) (fun t kt => ?_) ?_
      · show Steps p.tables e below (T17.setTop (mkF m 128 #[.val (.int p0), .val (.int p1), .val (.int p2), .val (.int p3), .val (.int p4), .val (.int p5), .val (.int ((p0 &&& (2147483647 : Int32)) % (6 : Int32))), .val (.ref b1), .val (.int (0 : Int32))] [(.int (0 : Int32)), (.int (own_cnt []))])) t
        refine XS.icmpYes X17.here hx rfl (pc0 := 128) (pc' := 135) rfl (hb hby at_128) rfl (feq hc128).2 (by decide) (by decide) ?_
        exact kt
      refine OGo.step (F' := T17.setTop (mkF m 136 #[.val (.int p0), .val (.int p1), .val (.int p2), .val (.int p3), .val (.int p4), .val (.int p5), .val (.int ((p0 &&& (2147483647 : Int32)) % (6 : Int32))), .val (.ref b1), .val (.int (0 : Int32))] [(.int (0 : Int32))])) (fun t kt => ?_) ?_
      · show Steps p.tables e below (T17.setTop (mkF m 135 #[.val (.int p0), .val (.int p1), .val (.int p2), .val (.int p3), .val (.int p4), .val (.int p5), .val (.int ((p0 &&& (2147483647 : Int32)) % (6 : Int32))), .val (.ref b1), .val (.int (0 : Int32))] [])) t
        refine XS.iconst X17.here hx rfl (hb hby at_135) ?_
        exact kt
      refine OGo.retZ X17 hx hlk (t := .boolean) (z' := (0 : Int32)) hret (by simp) (hb hby at_136) rfl ?_ (by decide) (by decide)
      show Q0 Z p0 p1 p2 p3 p4 p5 h0 n0 _ T17.heap _
      rw [e17]
      exact ⟨(by rw [f0, if_neg hc20, if_neg hc128]), N17, KC1⟩
theorem own_mk (x : Int32) : f2 x = (if f3 x = (0 : Int32) then 0 else 1) := by
  unfold f2 f3
  repeat' split
  all_goals simp_all
theorem own_law (p0 p1 p2 p3 p4 p5 : Int32) : f0 p0 p1 p2 p3 p4 p5 = 1 := by
  unfold f0
  simp only [own_cnt, ← own_mk, Int32.zero_add, Int32.add_zero, Int32.add_assoc, if_true, ite_self]
set_option maxRecDepth 65536 in
set_option maxHeartbeats 40000000 in
theorem comes_1 {Post : Tables → Env → Array Value → State → Outcome → State → Prop} (hpost : ∀ tb e args s v u, (limb_1_1.after args s (.returned v) u = true ∧ limb_1_2.after args s (.returned v) u = true ∧ True) → FrameEnd s (.returned v) u (Jvm.fieldLocs frame_1_writes args s ++ Jvm.arrayLocs frame_1_arrays args s ++ Jvm.staticLocs frame_1_statics s) 16 128 → Post tb e args s (.returned v) u) :
    ArmFor flags0 classFile x code maxLocals ret World_1 tables_1 room_1 Calls_1 rest_1 Pre_1 Post := by
  intro l hfl _ _ p e ha hc hk s m args below hf hA hF happ hP
  obtain ⟨hcalls, hrest, hpre⟩ := hP
  obtain ⟨-, -, -, hnamed, -, -, -, hat⟩ := (Spec.applies_iff hf).mp happ
  obtain ⟨hg, hn⟩ := and_e (Cond.before_iff.mp (show (Jvm.Cond.and given_1 narrow_1).before args s = true from hpre))
  obtain ⟨gc, gr0⟩ := and_e hg
  obtain ⟨ga0, gr1⟩ := and_e gr0
  obtain ⟨ga1, gr2⟩ := and_e gr1
  obtain ⟨ga2, gr3⟩ := and_e gr2
  obtain ⟨ga3, gr4⟩ := and_e gr3
  obtain ⟨ga4, gr5⟩ := and_e gr4
  have ga5 := gr5
  obtain ⟨w0, w1, w2, w3, w4, w5, rfl⟩ : ∃ w0 w1 w2 w3 w4 w5 : Value, args = #[w0, w1, w2, w3, w4, w5] := by
    have hs : args.size = 6 := by simpa [Cond.value, given_1] using gc
    obtain ⟨L⟩ := args
    match L, hs with
    | [w0, w1, w2, w3, w4, w5], _ => exact ⟨w0, w1, w2, w3, w4, w5, rfl⟩
  have hw := fun d (hd : d ∈ tables_1) => atoms_spec (ws := Jvm.Cond.code x code maxLocals ret :: tables_1) hat d (List.mem_cons_of_mem _ hd)
  have hfit : Fit s := fun {y c} hc i hi => by
    obtain ⟨ha, rfl⟩ := Array.getElem?_eq_some_iff.mp hc
    have q := List.all_eq_true.mp ((Array.all_eq_true_iff_forall_mem.mp hF) _ (Array.getElem_mem ha)) i (List.mem_range.mpr hi)
    simpa [Array.getElem?_eq_getElem hi] using q
  obtain ⟨i0, ei0⟩ := is_v ga0
  obtain rfl : w0 = (.int i0) := Option.some.inj ei0
  obtain ⟨i1, ei1⟩ := is_v ga1
  obtain rfl : w1 = (.int i1) := Option.some.inj ei1
  obtain ⟨i2, ei2⟩ := is_v ga2
  obtain rfl : w2 = (.int i2) := Option.some.inj ei2
  obtain ⟨i3, ei3⟩ := is_v ga3
  obtain rfl : w3 = (.int i3) := Option.some.inj ei3
  obtain ⟨i4, ei4⟩ := is_v ga4
  obtain rfl : w4 = (.int i4) := Option.some.inj ei4
  obtain ⟨i5, ei5⟩ := is_v ga5
  obtain rfl : w5 = (.int i5) := Option.some.inj ei5
  obtain ⟨n, o, h1, h2, h3, _, L, rfl, ⟨hv, N, -⟩, hq⟩ := rm0 l s _ hw tables_1 i0 i1 i2 i3 i4 i5 s.heap s.heap.size (Nat.le_refl _) p e ha hc hk s m _ below hf ((Spec.applies_iff_loose hf).mp happ).1 ⟨rfl, State.Warmed39.refl s, rfl⟩ trivial
  rw [own_law] at hv
  subst hv
  refine ⟨n, _, h1, h2, h3, hpost _ _ _ _ _ _ ⟨Cond.after_iff.mpr rfl, Cond.after_iff.mpr (eq_i res_at (Term.int_eval (1)) rfl), trivial⟩ ⟨hq.1, hq.2.1, (hq.2.2.sift fun y hy => Or.inr (N y hy)).mono (by decide) (by decide)⟩⟩
theorem main_1_1 : Claimed_1_1 := comes_1 fun _ _ _ _ _ _ h hF => ⟨h.1, hF⟩
theorem main_1_2 : Claimed_1_2 := comes_1 fun _ _ _ _ _ _ h hF => ⟨h.2.1, hF⟩
end Jvm.Pilot.@@N@@
namespace Jvm.Pilot.@@N@@
open Jvm Jvm.ClassFile Sem Op Lib Jvm.Free Jvm.Stand Jvm.Pilot.@@N@@.Jvm.D
/-! MADE BY PROGRAM (witnessworld.py) out of the Statement's table words and the real class files: 9 classes; the members and pool entries that the words name. The judged class is class 1, her method 1. -/
namespace start1
open Jvm.ClassFile
def u (s : String) : CpInfo := .utf8 (stringToUtf16 s)
/-- a pool by its gaps: so many unusable entries, then the entry; so many at the end -/
def gap : Nat → List CpInfo → List CpInfo
  | 0, r => r
  | n + 1, r => .unusable :: gap n r
def poolList (es : List (Nat × CpInfo)) (last : Nat) : List CpInfo := es.foldr (fun e r => gap e.1 (e.2 :: r)) (gap last [])
def pool (es : List (Nat × CpInfo)) (last : Nat) : Array CpInfo := ⟨poolList es last⟩
def fileOf (pool : Array CpInfo) (this : Nat) (attrs : Array Attribute := #[]) (ms : Array MethodInfo := #[]) (fl : Nat := 33) (sup : Nat := 0) (ifs : Array Nat := #[]) (fds : Array FieldInfo := #[]) : ClassFile where
  minorVersion := 0
  majorVersion := 65
  constantPool := pool
  accessFlags := fl
  thisClass := this
  superClass := sup
  interfaces := ifs
  fields := fds
  methods := ms
  attributes := attrs
def plain (name : String) (sup : Option ClassId) : Class where
  name := name
  kind := .ordinary
  loader := none
  accessFlags := 33
  super := sup
  interfaces := #[]
  cf := none
  fields := #[]
  methods := #[]
  instanceTypes := #[]
  staticTypes := #[]
  resolved := #[]
  callSites := []
  init := .initialized
  statics := none
  mirror := none

def pool0 : Array CpInfo := pool [(5, u "<init>"), (0, u "()V"), (1, .class_ 10), (1, u "java/lang/Object")] 113

def k0m0 : Method := { name := "<init>", desc := "()V", sig := { parameters := [], returnType := none }, accessFlags := 1, code := none }
/-- java/lang/Object -/
def k0 : Class := { plain "java/lang/Object" none with
  accessFlags := 33
  interfaces := #[]
  cf := some (fileOf pool0 8 #[] #[{ accessFlags := 1, nameIndex := 5, descriptorIndex := 6, attributes := #[] }] 33 0 #[] #[])
  fields := #[]
  methods := #[k0m0]
  instanceTypes := #[]
  staticTypes := #[]
  resolved := Array.replicate 124 none
  statics := none }

def pool1 : Array CpInfo := pool [(2, .class_ 4), (1, u "java/lang/Object"), (0, u "<init>"), (0, u "()V"), (0, .integer 2147483647), (0, .methodref 9 10), (0, .class_ 11), (0, .nameAndType 12 13), (0, u "com/example/kette/kette/EcmaPatternReaderCountStatesPinLaw"), (0, u "makes"), (0, u "(I)I"), (0, .methodref 15 16), (0, .class_ 17), (0, .nameAndType 18 19), (0, u "com/example/kette/kette/EcmaPatternReader"), (0, u "countStates"), (0, u "([I)I"), (2, u "law"), (0, u "(IIIIII)Z")] 5

def k1m0 : Method := { name := "<init>", desc := "()V", sig := { parameters := [], returnType := none }, accessFlags := 1, code := none }
def k1c1 : Code := { maxStack := 3, maxLocals := 9, code := code, exceptionTable := #[], attributes := #[] }
def k1m1 : Method := { name := "law", desc := "(IIIIII)Z", sig := { parameters := [.int, .int, .int, .int, .int, .int], returnType := some .boolean }, accessFlags := 9, code := some k1c1 }
def k1c2 : Code := { maxStack := 2, maxLocals := 2, code := method_3_code, exceptionTable := #[], attributes := #[] }
def k1m2 : Method := { name := "makes", desc := "(I)I", sig := { parameters := [.int], returnType := some .int }, accessFlags := 10, code := some k1c2 }
/-- com/example/kette/kette/EcmaPatternReaderCountStatesPinLaw -/
def k1 : Class := { plain "com/example/kette/kette/EcmaPatternReaderCountStatesPinLaw" (some 0) with
  accessFlags := 49
  interfaces := #[]
  cf := some (fileOf pool1 9 #[] #[{ accessFlags := 1, nameIndex := 5, descriptorIndex := 6, attributes := #[] }, { accessFlags := 9, nameIndex := 22, descriptorIndex := 23, attributes := #[] }, { accessFlags := 10, nameIndex := 12, descriptorIndex := 13, attributes := #[] }] 49 2 #[] #[])
  fields := #[]
  methods := #[k1m0, k1m1, k1m2]
  instanceTypes := #[]
  staticTypes := #[]
  resolved := Array.replicate 29 none
  statics := none }

def pool2 : Array CpInfo := pool [(2, .class_ 4), (1, u "java/lang/Object"), (6, .class_ 13), (1, u "com/example/kette/kette/EcmaPatternReader"), (0, u "sets"), (0, u "Ljava/util/List;"), (2, u "lookarounds"), (2, u "ahead"), (2, u "counts"), (5, u "names"), (0, u "Ljava/util/Set;"), (2, u "references"), (2, u "source"), (0, u "Ljava/lang/String;"), (11, u "expression"), (0, u "[I"), (14, u "states"), (0, u "I"), (7, .class_ 76), (0, u "com/example/kette/kette/EcmaPatternReader$Body"), (17, .methodref 11 95), (0, .nameAndType 96 97), (0, u "makesState"), (0, u "(I)Z"), (0, .class_ 99), (0, u "com/example/kette/kette/EcmaPatternReader$Group"), (8, u "position"), (7, u "termAt"), (77, u "NOT_LINE_TERMINATORS"), (0, u "Lcom/example/kette/kette/CodePointSet;"), (19, u "captures"), (60, .class_ 277), (0, u "com/example/kette/kette/EcmaPatternReader$Reference"), (57, u "DIGITS"), (9, u "LINE_TERMINATORS"), (18, u "WORD"), (130, u "set"), (85, u "SET"), (2, u "EMPTY"), (1, u "ASSERT"), (1, u "LOOK"), (1, u "CONCAT"), (1, u "ALTERNATE"), (1, u "STAR"), (1, u "PLUS"), (1, u "OPTIONAL"), (1, u "REPEAT"), (1, u "OPERATION_BITS"), (0, u "BEGIN"), (0, u "END"), (0, u "BOUNDARY"), (0, u "NOT_BOUNDARY"), (0, u "MAX_STATES"), (1, u "MAX_LOOKAROUNDS"), (1, u "SYNTAX_CHARACTERS"), (0, u "A_SET"), (20, u "countStates"), (0, u "([I)I")] 25

def k2c0 : Code := { maxStack := 2, maxLocals := 6, code := prog_12_method_10_code, exceptionTable := #[], attributes := #[] }
def k2m0 : Method := { name := "countStates", desc := "([I)I", sig := { parameters := [(.array .int)], returnType := some .int }, accessFlags := 8, code := some k2c0 }
def k2c1 : Code := { maxStack := 2, maxLocals := 2, code := prog_12_method_37_code, exceptionTable := #[], attributes := #[] }
def k2m1 : Method := { name := "makesState", desc := "(I)Z", sig := { parameters := [.int], returnType := some .boolean }, accessFlags := 10, code := some k2c1 }
/-- com/example/kette/kette/EcmaPatternReader -/
def k2 : Class := { plain "com/example/kette/kette/EcmaPatternReader" (some 0) with
  accessFlags := 32
  interfaces := #[]
  cf := some (fileOf pool2 11 #[.nestMembers #[98, 276, 75]] #[{ accessFlags := 8, nameIndex := 633, descriptorIndex := 634, attributes := #[] }, { accessFlags := 10, nameIndex := 96, descriptorIndex := 97, attributes := #[] }] 32 2 #[] #[{ accessFlags := 24, nameIndex := 581, descriptorIndex := 67, attributes := #[] }, { accessFlags := 24, nameIndex := 584, descriptorIndex := 67, attributes := #[] }, { accessFlags := 24, nameIndex := 586, descriptorIndex := 67, attributes := #[] }, { accessFlags := 24, nameIndex := 588, descriptorIndex := 67, attributes := #[] }, { accessFlags := 24, nameIndex := 590, descriptorIndex := 67, attributes := #[] }, { accessFlags := 24, nameIndex := 592, descriptorIndex := 67, attributes := #[] }, { accessFlags := 24, nameIndex := 594, descriptorIndex := 67, attributes := #[] }, { accessFlags := 24, nameIndex := 596, descriptorIndex := 67, attributes := #[] }, { accessFlags := 24, nameIndex := 598, descriptorIndex := 67, attributes := #[] }, { accessFlags := 24, nameIndex := 600, descriptorIndex := 67, attributes := #[] }, { accessFlags := 24, nameIndex := 602, descriptorIndex := 67, attributes := #[] }, { accessFlags := 24, nameIndex := 603, descriptorIndex := 67, attributes := #[] }, { accessFlags := 24, nameIndex := 604, descriptorIndex := 67, attributes := #[] }, { accessFlags := 24, nameIndex := 605, descriptorIndex := 67, attributes := #[] }, { accessFlags := 24, nameIndex := 606, descriptorIndex := 67, attributes := #[] }, { accessFlags := 24, nameIndex := 607, descriptorIndex := 67, attributes := #[] }, { accessFlags := 24, nameIndex := 609, descriptorIndex := 67, attributes := #[] }, { accessFlags := 26, nameIndex := 335, descriptorIndex := 195, attributes := #[] }, { accessFlags := 26, nameIndex := 364, descriptorIndex := 195, attributes := #[] }, { accessFlags := 26, nameIndex := 345, descriptorIndex := 195, attributes := #[] }, { accessFlags := 26, nameIndex := 194, descriptorIndex := 195, attributes := #[] }, { accessFlags := 26, nameIndex := 611, descriptorIndex := 38, attributes := #[] }, { accessFlags := 26, nameIndex := 612, descriptorIndex := 67, attributes := #[] }, { accessFlags := 18, nameIndex := 37, descriptorIndex := 38, attributes := #[] }, { accessFlags := 2, nameIndex := 108, descriptorIndex := 67, attributes := #[] }, { accessFlags := 2, nameIndex := 116, descriptorIndex := 67, attributes := #[] }, { accessFlags := 18, nameIndex := 14, descriptorIndex := 15, attributes := #[] }, { accessFlags := 18, nameIndex := 18, descriptorIndex := 15, attributes := #[] }, { accessFlags := 18, nameIndex := 21, descriptorIndex := 15, attributes := #[] }, { accessFlags := 2, nameIndex := 50, descriptorIndex := 51, attributes := #[] }, { accessFlags := 18, nameIndex := 24, descriptorIndex := 15, attributes := #[] }, { accessFlags := 2, nameIndex := 66, descriptorIndex := 67, attributes := #[] }, { accessFlags := 2, nameIndex := 215, descriptorIndex := 67, attributes := #[] }, { accessFlags := 18, nameIndex := 30, descriptorIndex := 31, attributes := #[] }, { accessFlags := 18, nameIndex := 34, descriptorIndex := 15, attributes := #[] }, { accessFlags := 2, nameIndex := 495, descriptorIndex := 195, attributes := #[] }])
  fields := #[{ name := "SET", type := .int, accessFlags := 24, slot := 0, constantValue := 0 }, { name := "EMPTY", type := .int, accessFlags := 24, slot := 1, constantValue := 0 }, { name := "ASSERT", type := .int, accessFlags := 24, slot := 2, constantValue := 0 }, { name := "LOOK", type := .int, accessFlags := 24, slot := 3, constantValue := 0 }, { name := "CONCAT", type := .int, accessFlags := 24, slot := 4, constantValue := 0 }, { name := "ALTERNATE", type := .int, accessFlags := 24, slot := 5, constantValue := 0 }, { name := "STAR", type := .int, accessFlags := 24, slot := 6, constantValue := 0 }, { name := "PLUS", type := .int, accessFlags := 24, slot := 7, constantValue := 0 }, { name := "OPTIONAL", type := .int, accessFlags := 24, slot := 8, constantValue := 0 }, { name := "REPEAT", type := .int, accessFlags := 24, slot := 9, constantValue := 0 }, { name := "OPERATION_BITS", type := .int, accessFlags := 24, slot := 10, constantValue := 0 }, { name := "BEGIN", type := .int, accessFlags := 24, slot := 11, constantValue := 0 }, { name := "END", type := .int, accessFlags := 24, slot := 12, constantValue := 0 }, { name := "BOUNDARY", type := .int, accessFlags := 24, slot := 13, constantValue := 0 }, { name := "NOT_BOUNDARY", type := .int, accessFlags := 24, slot := 14, constantValue := 0 }, { name := "MAX_STATES", type := .int, accessFlags := 24, slot := 15, constantValue := 0 }, { name := "MAX_LOOKAROUNDS", type := .int, accessFlags := 24, slot := 16, constantValue := 0 }, { name := "DIGITS", type := (.object "com/example/kette/kette/CodePointSet"), accessFlags := 26, slot := 17, constantValue := 0 }, { name := "WORD", type := (.object "com/example/kette/kette/CodePointSet"), accessFlags := 26, slot := 18, constantValue := 0 }, { name := "LINE_TERMINATORS", type := (.object "com/example/kette/kette/CodePointSet"), accessFlags := 26, slot := 19, constantValue := 0 }, { name := "NOT_LINE_TERMINATORS", type := (.object "com/example/kette/kette/CodePointSet"), accessFlags := 26, slot := 20, constantValue := 0 }, { name := "SYNTAX_CHARACTERS", type := (.object "java/lang/String"), accessFlags := 26, slot := 21, constantValue := 0 }, { name := "A_SET", type := .int, accessFlags := 26, slot := 22, constantValue := 0 }, { name := "source", type := (.object "java/lang/String"), accessFlags := 18, slot := 0, constantValue := 0 }, { name := "position", type := .int, accessFlags := 2, slot := 1, constantValue := 0 }, { name := "termAt", type := .int, accessFlags := 2, slot := 2, constantValue := 0 }, { name := "sets", type := (.object "java/util/List"), accessFlags := 18, slot := 3, constantValue := 0 }, { name := "lookarounds", type := (.object "java/util/List"), accessFlags := 18, slot := 4, constantValue := 0 }, { name := "ahead", type := (.object "java/util/List"), accessFlags := 18, slot := 5, constantValue := 0 }, { name := "expression", type := (.array .int), accessFlags := 2, slot := 6, constantValue := 0 }, { name := "counts", type := (.object "java/util/List"), accessFlags := 18, slot := 7, constantValue := 0 }, { name := "states", type := .int, accessFlags := 2, slot := 8, constantValue := 0 }, { name := "captures", type := .int, accessFlags := 2, slot := 9, constantValue := 0 }, { name := "names", type := (.object "java/util/Set"), accessFlags := 18, slot := 10, constantValue := 0 }, { name := "references", type := (.object "java/util/List"), accessFlags := 18, slot := 11, constantValue := 0 }, { name := "set", type := (.object "com/example/kette/kette/CodePointSet"), accessFlags := 2, slot := 12, constantValue := 0 }]
  methods := #[k2m0, k2m1]
  instanceTypes := #[(.object "java/lang/String"), .int, .int, (.object "java/util/List"), (.object "java/util/List"), (.object "java/util/List"), (.array .int), (.object "java/util/List"), .int, .int, (.object "java/util/Set"), (.object "java/util/List"), (.object "com/example/kette/kette/CodePointSet")]
  staticTypes := #[.int, .int, .int, .int, .int, .int, .int, .int, .int, .int, .int, .int, .int, .int, .int, .int, .int, (.object "com/example/kette/kette/CodePointSet"), (.object "com/example/kette/kette/CodePointSet"), (.object "com/example/kette/kette/CodePointSet"), (.object "com/example/kette/kette/CodePointSet"), (.object "java/lang/String"), .int]
  resolved := Array.replicate 660 none
  statics := none }

def pool3 : Array CpInfo := pool [(1, u "java/lang/Cloneable"), (0, .class_ 1), (0, u "java/lang/Object"), (0, .class_ 3)] 3

/-- java/lang/Cloneable -/
def k3 : Class := { plain "java/lang/Cloneable" (some 0) with
  accessFlags := 1537
  interfaces := #[]
  cf := some (fileOf pool3 2 #[] #[] 1537 4 #[] #[])
  fields := #[]
  methods := #[]
  instanceTypes := #[]
  staticTypes := #[]
  resolved := Array.replicate 8 none
  statics := none }

def pool4 : Array CpInfo := pool [(1, u "java/io/Serializable"), (0, .class_ 1), (0, u "java/lang/Object"), (0, .class_ 3)] 3

/-- java/io/Serializable -/
def k4 : Class := { plain "java/io/Serializable" (some 0) with
  accessFlags := 1537
  interfaces := #[]
  cf := some (fileOf pool4 2 #[] #[] 1537 4 #[] #[])
  fields := #[]
  methods := #[]
  instanceTypes := #[]
  staticTypes := #[]
  resolved := Array.replicate 8 none
  statics := none }

/-- the primitive byte -/
def k5 : Class := { plain "byte" none with kind := .primitive 'B', accessFlags := 0x411 }
/-- [B -/
def k6 : Class := { plain "[B" (some 0) with kind := .array 5 .byte, interfaces := #[3, 4], accessFlags := 1041 }

/-- the primitive int -/
def k7 : Class := { plain "int" none with kind := .primitive 'I', accessFlags := 0x411 }
/-- [I -/
def k8 : Class := { plain "[I" (some 0) with kind := .array 7 .int, interfaces := #[3, 4], accessFlags := 1041 }

def heap : Heap := #[]
def classes : Array Class := #[k0, k1, k2, k3, k4, k5, k6, k7, k8]
def interned : List (Array UInt16 × Addr) := []
def slotsUsed : Nat := 0
def theMethod : MethodId := ⟨1, 1⟩
def args0 : Array Value := #[.int 5, .int 7, .int 1, .int 2, .int 3, .int 4]
def aboutOver (below : List Frame) : State where
  vm := { classes := classes, interned := interned.toArray }
  heap := heap
  slotsUsed := slotsUsed
  threads := #[{ frames := .invoking theMethod args0 :: below }]
def below0 : List Frame := [.native { method := ⟨0, 0⟩, args := #[] }]
def about1 : State := aboutOver below0
def p0 : Program := .bare "" "" ""
def e0 : Env := launch0.env 0 0 0
theorem w_frames : about1.frames = Frame.invoking theMethod args0 :: below0 := rfl
set_option maxRecDepth 65536 in
theorem w_args : argsFit about1.vm theMethod args0 = true := by decide +kernel
set_option maxRecDepth 65536 in
theorem w_heap : heapFits about1 = true := by decide +kernel
set_option maxRecDepth 65536 in
theorem w_runnable : about1.curStatus? = some .runnable := by decide +kernel
set_option maxRecDepth 65536 in
theorem w_alone : about1.alone = true := by decide +kernel
set_option maxRecDepth 65536 in
theorem w_named : about1.methodNamed? x = some theMethod := by decide +kernel
set_option maxRecDepth 65536 in
theorem w_hears : about1.hears theMethod below0 = true := by decide +kernel
set_option maxRecDepth 65536 in
theorem w_ripe : about1.ripe theMethod args0 below0 = true := by decide +kernel
theorem w_running : about1.status = .running := rfl
set_option maxRecDepth 65536 in
theorem w_room : about1.hasRoom e0.platform room_1 = true :=
  launch0.hasRoom_least _ room_1 (by decide +kernel) (by decide +kernel) (by decide +kernel) (by decide +kernel) (by decide +kernel) (by decide +kernel)
theorem allAtoms_all (ts : List Jvm.Cond) (a : Array Jvm.Value) (st : Jvm.State) : (allAtoms ts).before a st = ts.all (fun c => c.before a st) := by
  induction ts with
  | nil => rfl
  | cons c t ih =>
    show (Jvm.Cond.and c (allAtoms t)).before a st = _
    rw [Jvm.Cond.before_and, ih, List.all_cons]
def words1 : List Jvm.Cond := Jvm.Cond.code x code maxLocals ret :: tables_1
/-- a 'code' word, met by the world's own term for the bytes: nothing is compared byte by byte -/
theorem code_word {y : MethodName} {bytes : ByteArray} {mx : Nat} {rt : Option FieldType} {a : Array Value} {s : State} {m : MethodId} {meth : Method} {c : Code} (h1 : s.methodNamed? y = some m) (h2 : s.vm.method? m = some meth) (h3 : meth.code = some c) (h4 : c.code = bytes)
    (h5 : (c.maxLocals == mx && c.exceptionTable.isEmpty && decide (c.maxStack ≤ mostOperands) && decide (meth.sig.returnType = rt) && !meth.locks && decide (parseMethodDescriptor y.desc = some meth.sig)) = true) : (Jvm.Cond.code y bytes mx rt).before a s = true := by
  simp only [Bool.and_eq_true, beq_iff_eq, Bool.not_eq_true', decide_eq_true_eq] at h5
  obtain ⟨⟨⟨⟨⟨g1, g2⟩, g3⟩, g4⟩, g5⟩, g6⟩ := h5
  simp [Cond.before, Cond.holds, Cond.value, h1, h2, h3, h4, g1, g2, g3, g4, g5, g6]
def isCode : Jvm.Cond → Bool
  | .code _ _ _ _ => true
  | _ => false
theorem all_split {L : List Jvm.Cond} {P : Jvm.Cond → Bool} (h1 : L.all (fun c => isCode c || P c) = true) (h2 : ∀ c ∈ L.filter isCode, P c = true) : L.all P = true := by
  refine List.all_eq_true.mpr fun c hc => ?_
  have h := List.all_eq_true.mp h1 c hc
  rcases Bool.eq_false_or_eq_true (isCode c) with hi | hi
  · exact h2 c (List.mem_filter.mpr ⟨hc, hi⟩)
  · simpa [hi] using h
set_option maxRecDepth 65536 in
theorem w_c0 : (Jvm.Cond.code x code maxLocals ret).before args0 about1 = true := code_word (m := ⟨1, 1⟩) (meth := k1m1) (c := k1c1) (by decide +kernel) rfl rfl rfl (by decide +kernel)
set_option maxRecDepth 65536 in
theorem w_c1 : (Jvm.Cond.code ({ cls := "com/example/kette/kette/EcmaPatternReader", name := "countStates", desc := "([I)I" } : Jvm.MethodName) prog_12_method_10_code (6 : Nat) (Option.some Jvm.ClassFile.FieldType.int)).before args0 about1 = true := code_word (m := ⟨2, 0⟩) (meth := k2m0) (c := k2c0) (by decide +kernel) rfl rfl rfl (by decide +kernel)
set_option maxRecDepth 65536 in
theorem w_c2 : (Jvm.Cond.code ({ cls := "com/example/kette/kette/EcmaPatternReaderCountStatesPinLaw", name := "makes", desc := "(I)I" } : Jvm.MethodName) method_3_code (2 : Nat) (Option.some Jvm.ClassFile.FieldType.int)).before args0 about1 = true := code_word (m := ⟨1, 2⟩) (meth := k1m2) (c := k1c2) (by decide +kernel) rfl rfl rfl (by decide +kernel)
set_option maxRecDepth 65536 in
theorem w_c3 : (Jvm.Cond.code ({ cls := "com/example/kette/kette/EcmaPatternReader", name := "makesState", desc := "(I)Z" } : Jvm.MethodName) prog_12_method_37_code (2 : Nat) (Option.some Jvm.ClassFile.FieldType.boolean)).before args0 about1 = true := code_word (m := ⟨2, 1⟩) (meth := k2m1) (c := k2c1) (by decide +kernel) rfl rfl rfl (by decide +kernel)
def codes1 : List Jvm.Cond := [Jvm.Cond.code x code maxLocals ret, Jvm.Cond.code ({ cls := "com/example/kette/kette/EcmaPatternReader", name := "countStates", desc := "([I)I" } : Jvm.MethodName) prog_12_method_10_code (6 : Nat) (Option.some Jvm.ClassFile.FieldType.int), Jvm.Cond.code ({ cls := "com/example/kette/kette/EcmaPatternReaderCountStatesPinLaw", name := "makes", desc := "(I)I" } : Jvm.MethodName) method_3_code (2 : Nat) (Option.some Jvm.ClassFile.FieldType.int), Jvm.Cond.code ({ cls := "com/example/kette/kette/EcmaPatternReader", name := "makesState", desc := "(I)Z" } : Jvm.MethodName) prog_12_method_37_code (2 : Nat) (Option.some Jvm.ClassFile.FieldType.boolean)]
set_option maxRecDepth 65536 in
theorem codes_eq : words1.filter isCode = codes1 := rfl
theorem w_codes : ∀ c ∈ words1.filter isCode, c.before args0 about1 = true := by
  rw [codes_eq]
  intro c hc
  simp only [codes1, List.mem_cons, List.not_mem_nil, or_false] at hc
  rcases hc with rfl | rfl | rfl | rfl
  · exact w_c0
  · exact w_c1
  · exact w_c2
  · exact w_c3
set_option maxRecDepth 65536 in
theorem w_t1 : words1.all (fun c => isCode c || c.before args0 about1) = true := by decide +kernel
theorem w_tables : (allAtoms (Jvm.Cond.code x code maxLocals ret :: tables_1)).before args0 about1 = true := by
  rw [allAtoms_all]
  show words1.all (fun c => c.before args0 about1) = true
  refine all_split ?_ w_codes
  rw [w_t1]
set_option maxRecDepth 65536 in
theorem w_case : (Jvm.Cond.and given_1 narrow_1).before args0 about1 = true := by decide +kernel
theorem w_applies : (headSpec (Jvm.Cond.code x code maxLocals ret :: tables_1) room_1).applies x e0.platform about1 = true :=
  (Spec.applies_iff w_frames).mpr ⟨w_running, w_runnable, w_alone, w_named, w_hears, w_ripe, w_room, w_tables⟩
theorem atStart : AtStart classFile x code maxLocals ret World_1 tables_1 room_1 Calls_1 rest_1 Pre_1 launch0 p0 e0 about1 theMethod args0 below0 :=
  ⟨lists_1, trivial, launch0.admits_env _ _ _, launch0.least_env, fairChoices_fair.cas, fairChoices_fair.clock, w_frames, w_args, w_heap, w_applies, trivial, trivial, w_case⟩
end start1
theorem witness_1 : WitnessClaimed_1 := ⟨start1.p0, start1.e0, start1.about1, start1.theMethod, start1.args0, start1.below0, start1.atStart⟩
end Jvm.Pilot.@@N@@
