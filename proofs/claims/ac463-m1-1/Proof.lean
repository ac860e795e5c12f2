import JvmDerived
import JvmDerived.Pilot.@@N@@Statement
import JvmDerived.Pilot.@@N@@Code
set_option linter.unusedVariables false
set_option linter.unusedSimpArgs false
namespace Jvm.Pilot.@@N@@
open Jvm Jvm.ClassFile Sem Op Lib Jvm.Free Jvm.Stand Jvm.LawKit Jvm.RoadKit Bundle Jvm.Pilot.@@N@@.Jvm.D
section OwnKit
variable {p : Program} {l : Launch} {e : Env} {R : Room} {s : State} {m : MethodId} {args : Array Value} {below : List Frame} {meth : Method} {c : Code} {T : State} {locs : List Loc} {cells slots : Nat} {Z : State} {a0 : Array Value} {h : Heap} {Q : Option Value → Heap → List Loc → Prop} {kc ks : Nat}
/-- from the state F the run comes to its return, with what Q says -/
def OGo (p : Program) (e : Env) (below : List Frame) (s : State) (Q : Option Value → Heap → List Loc → Prop) (kc ks : Nat) (F : State) : Prop :=
  ∃ (s₂ : State) (o : Outcome), Steps p.tables e below F s₂ ∧ s₂.status = .running ∧ Ended s₂ below o ∧ ∃ v L, o = .returned v ∧ Q v s₂.heap L ∧ FrameEnd s o s₂ L kc ks
theorem OGo.step {F F' : State} (k : ∀ t, Steps p.tables e below F' t → Steps p.tables e below F t) (g : OGo p e below s Q kc ks F') : OGo p e below s Q kc ks F := by
  obtain ⟨s₂, o, h, r⟩ := g
  exact ⟨s₂, o, k _ h, r⟩
theorem OGo.retOut (X : Stand p l e R s m args below meth c T locs cells slots) (hx : p.tables.exec = Jvm.exec) (hlk : meth.locks = false) {pc : Nat} {Ls : Array Slot} {w : Value} {t : FieldType} {i : Instr} {rest : List Value} (hret : meth.sig.returnType = some t) (hn : narrow t w = w)
    (hi : (i = .ireturn ∧ (t = .int ∨ t = .boolean ∨ t = .byte ∨ t = .char ∨ t = .short) ∧ ∃ z, w = .int z) ∨ (i = .lreturn ∧ t = .long ∧ ∃ z, w = .long z) ∨ (i = .dreturn ∧ t = .double ∧ ∃ z, w = .double z) ∨ (i = .freturn ∧ t = .float ∧ ∃ z, w = .float z) ∨ (i = .areturn ∧ t.isReference = true ∧ w.isRef = true))
    (hd : decode c.code pc = .ok (i, 1)) (hQ : Q (some w) T.heap locs) (hc : cells ≤ kc) (hs : slots ≤ ks) : OGo p e below s Q kc ks (T.setTop (mkF m pc Ls (w :: rest))) := by
  obtain ⟨fs, hr, hrun, hended, hW, hsame⟩ := X.leave (v := some w) (fun h => by rw [hret] at h; cases h) hlk
  exact ⟨_, _, Jvm.RoadKit.retOut X hx hret hn hi hd hr, hrun, hended, _, _, rfl, hQ, ⟨_, rfl⟩, hW, hsame.mono hc hs⟩
theorem OGo.retI (X : Stand p l e R s m args below meth c T locs cells slots) (hx : p.tables.exec = Jvm.exec) (hlk : meth.locks = false) {pc : Nat} {Ls : Array Slot} {z : Int32} {rest : List Value} (hret : meth.sig.returnType = some .int) (hd : decode c.code pc = .ok (.ireturn, 1)) (hQ : Q (some (.int z)) T.heap locs) (hc : cells ≤ kc) (hs : slots ≤ ks) :
    OGo p e below s Q kc ks (T.setTop (mkF m pc Ls (.int z :: rest))) := OGo.retOut X hx hlk hret rfl (Or.inl ⟨rfl, Or.inl rfl, _, rfl⟩) hd hQ hc hs
theorem OGo.retJ (X : Stand p l e R s m args below meth c T locs cells slots) (hx : p.tables.exec = Jvm.exec) (hlk : meth.locks = false) {pc : Nat} {Ls : Array Slot} {z : Int64} {rest : List Value} (hret : meth.sig.returnType = some .long) (hd : decode c.code pc = .ok (.lreturn, 1)) (hQ : Q (some (.long z)) T.heap locs) (hc : cells ≤ kc) (hs : slots ≤ ks) :
    OGo p e below s Q kc ks (T.setTop (mkF m pc Ls (.long z :: rest))) := OGo.retOut X hx hlk hret rfl (Or.inr (Or.inl ⟨rfl, rfl, _, rfl⟩)) hd hQ hc hs
theorem OGo.retA (X : Stand p l e R s m args below meth c T locs cells slots) (hx : p.tables.exec = Jvm.exec) (hlk : meth.locks = false) {pc : Nat} {Ls : Array Slot} {w : Value} {t : FieldType} {rest : List Value} (hret : meth.sig.returnType = some t) (ht : t.isReference = true) (hw : w.isRef = true) (hn : narrow t w = w) (hd : decode c.code pc = .ok (.areturn, 1)) (hQ : Q (some w) T.heap locs) (hc : cells ≤ kc) (hs : slots ≤ ks) :
    OGo p e below s Q kc ks (T.setTop (mkF m pc Ls (w :: rest))) := OGo.retOut X hx hlk hret hn (Or.inr (Or.inr (Or.inr (Or.inr ⟨rfl, ht, hw⟩)))) hd hQ hc hs
theorem OGo.retZ (X : Stand p l e R s m args below meth c T locs cells slots) (hx : p.tables.exec = Jvm.exec) (hlk : meth.locks = false) {pc : Nat} {Ls : Array Slot} {z z' : Int32} {t : FieldType} {rest : List Value} (hret : meth.sig.returnType = some t) (ht : t = .boolean ∨ t = .byte ∨ t = .char ∨ t = .short) (hd : decode c.code pc = .ok (.ireturn, 1)) (hz : nar t z = z') (hQ : Q (some (.int z')) T.heap locs) (hc : cells ≤ kc) (hs : slots ≤ ks) :
    OGo p e below s Q kc ks (T.setTop (mkF m pc Ls (.int z :: rest))) := by
  subst hz
  obtain ⟨fs, hr, hrun, hended, hW, hsame⟩ := X.leave (v := some (.int (nar t z))) (fun h => by rw [hret] at h; cases h) hlk
  exact ⟨_, _, Jvm.RoadKit.retN X hx hret ht hd hr, hrun, hended, _, _, rfl, hQ, ⟨_, rfl⟩, hW, hsame.mono hc hs⟩
theorem OGo.retV (X : Stand p l e R s m args below meth c T locs cells slots) (hx : p.tables.exec = Jvm.exec) (hlk : meth.locks = false) {pc : Nat} {Ls : Array Slot} (hret : meth.sig.returnType = none) (hd : decode c.code pc = .ok (.return_, 1)) (hQ : Q none T.heap locs) (hc : cells ≤ kc) (hs : slots ≤ ks) :
    OGo p e below s Q kc ks (T.setTop (mkF m pc Ls [])) := by
  obtain ⟨fs, hr, hrun, hended, hW, hsame⟩ := X.leave (v := none) (fun _ => rfl) hlk
  exact ⟨_, _, X.returnOut hx hret hd hr, hrun, hended, _, _, rfl, hQ, ⟨_, rfl⟩, hW, hsame.mono hc hs⟩
/-- a body's contract -/
abbrev OCtr (l : Launch) (Z : State) (y : MethodName) (bytes : ByteArray) (maxL : Nat) (ret : Option FieldType) (ws : List Jvm.Cond) (rm : Room) (as' : Array Value) (h0 : Heap) (Q : Option Value → Heap → List Loc → Prop) : Prop :=
  MetFree l y (head1 (Jvm.Cond.code y bytes maxL ret :: ws) rm) (fun a U => a = as' ∧ Z.Warmed39 U.vm ∧ U.heap = h0) (fun _ _ _ _ _ => True) (fun _ U o U' => ∃ v L, o = .returned v ∧ Q v U'.heap L ∧ FrameEnd U o U' L rm.cells rm.slots)
theorem OCtr.of {y : MethodName} {bytes : ByteArray} {maxL : Nat} {ret : Option FieldType} {ws : List Jvm.Cond} {rm : Room} {as' : Array Value} (hp : plainFor y = true)
    (k : ∀ (p : Program) (e : Env) (s : State) (m : MethodId) (below : List Frame) (meth : Method) (c : Code) (s₁ : State), Stand p l e rm s m as' below meth c s₁ [] 0 0 → p.tables.exec = Jvm.exec → meth.locks = false → Z.Warmed39 s.vm → s.vm.findClass y.cls = some m.cls → meth.name = y.name → c.code = bytes → c.maxLocals = maxL → meth.sig.returnType = ret → s₁.heap = h →
      OGo p e below s Q rm.cells rm.slots (s₁.setTop (entryFrame m as' maxL))) : OCtr l Z y bytes maxL ret ws rm as' h Q := by
  refine MetFree.of_bodySF hp hisR ?_
  intro p e s m args below meth c s₁ Bd hml0 hP hK
  obtain ⟨rfl, hZ, hh⟩ := hP
  exact k p e s m below meth c s₁ (Stand.of_body Bd) Bd.exec Bd.notSynchronized hZ (findClass_of_methodNamed Bd.named) (name_of_methodNamed Bd.named Bd.method).1 Bd.bytes hml0 Bd.returns (by rw [← hh, Bd.state]; rfl)
/-- it returns w, and the heap is as it was -/
def OPure (w : Option Value) (h0 : Heap) (n0 : Nat) : Option Value → Heap → List Loc → Prop := fun v h L => v = w ∧ Fr n0 L ∧ h = h0
theorem OGo.callS (X : Stand p l e R s m args below meth c T locs cells slots) (hx : p.tables.exec = Jvm.exec) (hZ : Z.Warmed39 s.vm) {own : String} {index : Nat} {y : MethodName} {bytes : ByteArray} {maxL : Nat} {ret : Option FieldType} (hown : s.vm.findClass own = some m.cls)
    (wl : (Jvm.Cond.methodLink own index y).before a0 Z = true) (wst : (Jvm.Cond.static y).before a0 Z = true) (wi : (Jvm.Cond.initialized y.cls).before a0 Z = true) (wc : (Jvm.Cond.code y bytes maxL ret).before a0 Z = true) (hy : y.cls ≠ "java/lang/invoke/MethodHandle" ∧ y.cls ≠ "java/lang/invoke/VarHandle")
    {rm : Room} {as' : Array Value} {Q' : Option Value → Heap → List Loc → Prop} (hM : OCtr l Z y bytes maxL ret [] rm as' h Q') {W : Nat} (hf : rm.frames + 1 ≤ R.frames) (hl : W + (maxL + 11) + rm.locals ≤ R.locals)
    {g : JFrame} (hg : g.method = m) (hsize : g.locals.size = c.maxLocals) {argsL rest : List Value} (hlen : ∀ sig, parseMethodDescriptor y.desc = some sig → argsL.length = sig.parameters.length) (hstack : g.stack = argsL.reverse ++ rest) (hW : 2 * g.monitorRoom + (rest.map fun v => v.category).sum ≤ W) (hdg : decode c.code g.pc = .ok (.invokestatic index, 3))
    (ha : argsL.toArray = as') (e0 : T.heap = h) (hc : cells + rm.cells ≤ R.cells) (hs : slots + rm.slots ≤ R.slots)
    (k : ∀ (v : Option Value) (T' : State) (L' : List Loc), Stand p l e R s m args below meth c T' (locs ++ L') (cells + rm.cells) (slots + rm.slots) → Q' v T'.heap L' → OGo p e below s Q kc ks (T'.setTop { g with pc := g.pc + 3, stack := v.toList ++ rest })) : OGo p e below s Q kc ks (T.setTop g) := by
  obtain ⟨v, _, ⟨T', L', k', n'⟩, -, X', ⟨Lc, hQ, l', y', z'⟩, st⟩ := Jvm.LawKit.callS X hx hown (mvT hZ wl) (mvT hZ wst) (mvT hZ wi) (mvT hZ wc) hy (backOf (W := W) hM hZ wc wi hf hl) hg hsize hlen hstack hW hdg (fun _ _ => ⟨ha, e0, hc, hs⟩)
  dsimp only [Pt.U, Pt.locs, Pt.cells, Pt.slots] at X' l' y' z' st hQ
  subst l' y' z'
  exact OGo.step st (k v T' Lc X' hQ)
theorem OGo.callV (X : Stand p l e R s m args below meth c T locs cells slots) (hx : p.tables.exec = Jvm.exec) (hZ : Z.Warmed39 s.vm) {own C : String} {index : Nat} {y z : MethodName} {bytes : ByteArray} {maxL : Nat} {ret : Option FieldType} (hown : s.vm.findClass own = some m.cls)
    (wl : (Jvm.Cond.methodLink own index y).before a0 Z = true) (wd : (Jvm.Cond.declares y).before a0 Z = true) (hnf : NotFace s y) (wsel : (Jvm.Cond.selects C y z).before a0 Z = true) (win : (Jvm.Cond.instanceMethod z).before a0 Z = true) (wi : (Jvm.Cond.initialized z.cls).before a0 Z = true) (wc : (Jvm.Cond.code z bytes maxL ret).before a0 Z = true) (hy : y.cls ≠ "java/lang/invoke/MethodHandle" ∧ y.cls ≠ "java/lang/invoke/VarHandle")
    {rm : Room} {as' : Array Value} {Q' : Option Value → Heap → List Loc → Prop} (hM : OCtr l Z z bytes maxL ret [] rm as' h Q') {W : Nat} (hf : rm.frames + 1 ≤ R.frames) (hl : W + (maxL + 11) + rm.locals ≤ R.locals) {b : Addr} (E : Exa Z h b C)
    {g : JFrame} (hg : g.method = m) (hsize : g.locals.size = c.maxLocals) {argsL rest : List Value} (hlen : ∀ sig, parseMethodDescriptor y.desc = some sig → argsL.length = sig.parameters.length) (hstack : g.stack = argsL.reverse ++ .ref b :: rest) (hW : 2 * g.monitorRoom + (rest.map fun v => v.category).sum ≤ W) (hdg : decode c.code g.pc = .ok (.invokevirtual index, 3))
    (ha : (.ref b :: argsL).toArray = as') (e0 : T.heap = h) (hc : cells + rm.cells ≤ R.cells) (hs : slots + rm.slots ≤ R.slots)
    (k : ∀ (v : Option Value) (T' : State) (L' : List Loc), Stand p l e R s m args below meth c T' (locs ++ L') (cells + rm.cells) (slots + rm.slots) → Q' v T'.heap L' → OGo p e below s Q kc ks (T'.setTop { g with pc := g.pc + 3, stack := v.toList ++ rest })) : OGo p e below s Q kc ks (T.setTop g) := by
  obtain ⟨cq, kq, q1, q2, q3⟩ := isOf hZ e0 E
  obtain ⟨v, _, ⟨T', L', k', n'⟩, -, X', ⟨Lc, hQ, l', y', z'⟩, st⟩ := X.virtualBack hx hown (mvT hZ wl) (mvT hZ wd) hnf (mvT hZ wsel) (mvT hZ win) hy (backOf (W := W) hM hZ wc wi hf hl) q1 q3 hg hsize (Steps.refl _) hlen hstack hW hdg (fun _ _ => ⟨ha, e0, hc, hs⟩)
  dsimp only [Pt.U, Pt.locs, Pt.cells, Pt.slots] at X' l' y' z' st hQ
  subst l' y' z'
  exact OGo.step (fun t q => st.trans q) (k v T' Lc X' hQ)
theorem OGo.callC (X : Stand p l e R s m args below meth c T locs cells slots) (hx : p.tables.exec = Jvm.exec) (hZ : Z.Warmed39 s.vm) {own : String} {index : Nat} {y : MethodName} {bytes : ByteArray} {maxL : Nat} (hy1 : y.name = "<init>") (hown : s.vm.findClass own = some m.cls)
    (wl : (Jvm.Cond.methodLink own index y).before a0 Z = true) (win : (Jvm.Cond.instanceMethod y).before a0 Z = true) (wi : (Jvm.Cond.initialized y.cls).before a0 Z = true) (wc : (Jvm.Cond.code y bytes maxL none).before a0 Z = true) (hy : y.cls ≠ "java/lang/invoke/MethodHandle" ∧ y.cls ≠ "java/lang/invoke/VarHandle")
    {rm : Room} {as' : Array Value} {Q' : Option Value → Heap → List Loc → Prop} (hM : OCtr l Z y bytes maxL none [] rm as' h Q') {W : Nat} (hf : rm.frames + 1 ≤ R.frames) (hl : W + (maxL + 11) + rm.locals ≤ R.locals) {b : Addr}
    {g : JFrame} (hg : g.method = m) (hsize : g.locals.size = c.maxLocals) {argsL rest : List Value} (hlen : ∀ sig, parseMethodDescriptor y.desc = some sig → argsL.length = sig.parameters.length) (hstack : g.stack = argsL.reverse ++ .ref b :: rest) (hW : 2 * g.monitorRoom + (rest.map fun v => v.category).sum ≤ W) (hdg : decode c.code g.pc = .ok (.invokespecial index, 3))
    (ha : (.ref b :: argsL).toArray = as') (e0 : T.heap = h) (hc : cells + rm.cells ≤ R.cells) (hs : slots + rm.slots ≤ R.slots)
    (k : ∀ (v : Option Value) (T' : State) (L' : List Loc), Stand p l e R s m args below meth c T' (locs ++ L') (cells + rm.cells) (slots + rm.slots) → Q' v T'.heap L' → OGo p e below s Q kc ks (T'.setTop { g with pc := g.pc + 3, stack := v.toList ++ rest })) : OGo p e below s Q kc ks (T.setTop g) := by
  obtain ⟨v, _, ⟨T', L', k', n'⟩, -, X', ⟨Lc, hQ, l', y', z'⟩, st⟩ := X.specialBack hx hy1 hown (mvT hZ wl) (mvT hZ win) (mvT hZ wc) hy (backOf (W := W) hM hZ wc wi hf hl) hg hsize (Steps.refl _) hlen hstack hW hdg (fun _ _ => ⟨ha, e0, hc, hs⟩)
  dsimp only [Pt.U, Pt.locs, Pt.cells, Pt.slots] at X' l' y' z' st hQ
  subst l' y' z'
  exact OGo.step (fun t q => st.trans q) (k v T' Lc X' hQ)
theorem own_wd (hw : ∀ d ∈ tables_1, d.before a0 Z = true) (i : Nat) {d : Jvm.Cond} (q : tables_1[i]? = some d) : d.before a0 Z = true := hw _ (List.mem_of_getElem? q)
theorem own_narc (x : Int32) : nar .char (x.toUInt32.toUInt16.toUInt32.toInt32) = x.toUInt32.toUInt16.toUInt32.toInt32 := by
  show x.toUInt32.toUInt16.toUInt32.toInt32.toUInt32.toUInt16.toUInt32.toInt32 = _
  simp only [UInt32.toUInt32_toInt32, UInt16.toUInt16_toUInt32]
theorem own_obj {a : Addr} {C : String} (F : Exa Z h a C) : ∃ cell : Cell, h[a]? = some cell ∧ cell.vm.isStatics = false := by
  obtain ⟨cell, _, h1, -, -, h4, -⟩ := F; exact ⟨cell, h1, h4⟩
theorem own_stakeep {h' : Heap} {ws : List Addr} {C n d : String} {v : Value} (F : Sta Z h C n d v) (K : Keep h h' ws) (q : ∀ x ∈ ws, ∃ cell : Cell, h[x]? = some cell ∧ cell.vm.isStatics = false) : Sta Z h' C n d v := by
  obtain ⟨cf, i, k, f, st, cell, h1, h2, h3, h4, h5, h6, h7⟩ := F
  refine ⟨cf, i, k, f, st, cell, h1, h2, h3, h4, K.2.1 _ _ h5 fun hm => ?_, h6, h7⟩
  obtain ⟨c', g1, g2⟩ := q _ hm
  cases g1.symm.trans h5
  rw [h6] at g2; cases g2
end OwnKit
theorem own_fld {args : Array Value} {Z : State} {t : Term} {a : Addr} {C n d : String} {k : Int32} (ev : t.eval args Z none [] Z = some (.ref a)) (q : (Jvm.Cond.eq (Term.field t C n d) (Term.int k)).value args Z none Z [] = some true) : Fld Z Z.heap a C n d (.int k) := by
  refine Fld.start ?_
  have e1 : (Term.field t C n d).eval args Z none [] Z = Z.fieldOf? a C n d := by simp [Term.eval, ev]
  have e2 : (Term.int k).eval args Z none [] Z = some (.int k) := rfl
  simp only [Cond.value, e1, e2] at q
  cases hf : Z.fieldOf? a C n d with
  | none => simp [hf] at q
  | some v => cases v <;> simp [hf] at q <;> simp [q]
/-! body 1: com/example/trigrid/trigrid/Mark.opponent:()Lcom/example/trigrid/trigrid/Mark; -/
theorem d1_0 : decode prog_7_method_5_code 0 = .ok (.aload_n 0, 1) := by decide +kernel
theorem d1_1 : decode prog_7_method_5_code 1 = .ok (.getstatic 3, 3) := by decide +kernel
theorem d1_4 : decode prog_7_method_5_code 4 = .ok (.if_acmp .ne 9, 3) := by decide +kernel
theorem d1_7 : decode prog_7_method_5_code 7 = .ok (.getstatic 7, 3) := by decide +kernel
theorem d1_10 : decode prog_7_method_5_code 10 = .ok (.goto 6, 3) := by decide +kernel
theorem d1_13 : decode prog_7_method_5_code 13 = .ok (.getstatic 3, 3) := by decide +kernel
theorem d1_16 : decode prog_7_method_5_code 16 = .ok (.areturn, 1) := by decide +kernel
theorem pn_1 : plainName "com/example/trigrid/trigrid/Mark" = true := by first | (simp [plainName, overriddenIn]; done) | decide +kernel
theorem ef_1 (m : MethodId) (x0 : Addr) : entryFrame m #[(.ref x0)] 1 = mkF m 0 #[.val (.ref x0)] [] := by first | (simp [entryFrame, mkF, argsToLocals, Value.category]; done) | rfl
def f1 (a0 : Addr) (w_X : Addr) (w_O : Addr) : Addr :=
  if a0 = w_X then w_O
  else w_X
set_option maxRecDepth 65536 in
set_option maxHeartbeats 40000000 in
theorem rm1 (l : Launch) (Z : State) (az : Array Value) (hw : ∀ d ∈ tables_1, d.before az Z = true) (ws : List Jvm.Cond) (a0 : Addr) (w_X : Addr) (w_O : Addr) (h0 : Heap) (n0 : Nat) (Z0 : n0 ≤ h0.size) (S_Mark_X : Sta Z h0 "com/example/trigrid/trigrid/Mark" "X" "Lcom/example/trigrid/trigrid/Mark;" (.ref w_X)) (S_Mark_O : Sta Z h0 "com/example/trigrid/trigrid/Mark" "O" "Lcom/example/trigrid/trigrid/Mark;" (.ref w_O)) :
    OCtr l Z (⟨"com/example/trigrid/trigrid/Mark", "opponent", "()Lcom/example/trigrid/trigrid/Mark;"⟩ : MethodName) prog_7_method_5_code 1 (some (.object "com/example/trigrid/trigrid/Mark")) ws ({ frames := 0, cells := 0, slots := 0, locals := 0 } : Room) #[(.ref a0)] h0 (OPure (some (.ref (f1 a0 w_X w_O))) h0 n0) := by
  refine OCtr.of (plainFor_of_name pn_1) ?_
  intro p e s m below meth c s₁ X0 hx hlk hZ hown0 hnm hby hml0 hret e0
  have hown : s.vm.findClass "com/example/trigrid/trigrid/Mark" = some m.cls := hown0
  have hml : c.maxLocals = 1 := hml0
  have N0 := Fr.nil n0
  refine OGo.step (fun t k => castTop (ef_1 m a0) k) ?_
  refine OGo.step (F' := s₁.setTop (mkF m 1 #[.val (.ref a0)] [(.ref a0)])) (fun t kt => ?_) ?_
  · show Steps p.tables e below (s₁.setTop (mkF m 0 #[.val (.ref a0)] [])) t
    refine XS.aloadN X0.here hx rfl (hb hby d1_0) rfl rfl ?_
    exact kt
  obtain ⟨T1, X1, e1, st1⟩ := getS2 X0 hx hZ hown (host := "") (Or.inl (own_wd hw 8 rfl)) Via.refl e0 S_Mark_X (g := (mkF m 1 #[.val (.ref a0)] [(.ref a0)])) rfl (hb hby d1_1)
  refine OGo.step st1 ?_
  show OGo _ _ _ _ _ _ _ (T1.setTop (mkF m 4 #[.val (.ref a0)] [(.ref w_X), (.ref a0)]))
  by_cases hc4 : a0 = w_X
  · refine OGo.step (F' := T1.setTop (mkF m 7 #[.val (.ref a0)] [])) (fun t kt => ?_) ?_
    · show Steps p.tables e below (T1.setTop (mkF m 4 #[.val (.ref a0)] [(.ref w_X), (.ref a0)])) t
      refine Jvm.RoadKit.acmp (g := (mkF m 4 #[.val (.ref a0)] [(.ref w_X), (.ref a0)])) X1 hx rfl rfl rfl (pc0 := 4) (pc' := 7) (same := true) rfl (hb hby d1_4) rfl (decide_eq_true (congrArg Value.ref hc4)) (by decide) (by decide) ?_
      exact kt
    obtain ⟨T2, X2, e2, st2⟩ := getS2 X1 hx hZ hown (host := "") (Or.inl (own_wd hw 11 rfl)) Via.refl e1 S_Mark_O (g := (mkF m 7 #[.val (.ref a0)] [])) rfl (hb hby d1_7)
    refine OGo.step st2 ?_
    show OGo _ _ _ _ _ _ _ (T2.setTop (mkF m 10 #[.val (.ref a0)] [(.ref w_O)]))
    refine OGo.step (F' := T2.setTop (mkF m 16 #[.val (.ref a0)] [(.ref w_O)])) (fun t kt => ?_) ?_
    · show Steps p.tables e below (T2.setTop (mkF m 10 #[.val (.ref a0)] [(.ref w_O)])) t
      refine XS.goto X2.here hx rfl (pc0 := 10) (pc' := 16) rfl (hb hby d1_10) (by decide) (by decide) ?_
      exact kt
    refine OGo.retA X2 hx hlk (t := (.object "com/example/trigrid/trigrid/Mark")) hret rfl rfl rfl (hb hby d1_16) ?_ (by decide) (by decide)
    exact ⟨(by rw [f1, if_pos hc4]), N0, e2⟩
  · refine OGo.step (F' := T1.setTop (mkF m 13 #[.val (.ref a0)] [])) (fun t kt => ?_) ?_
    · show Steps p.tables e below (T1.setTop (mkF m 4 #[.val (.ref a0)] [(.ref w_X), (.ref a0)])) t
      refine Jvm.RoadKit.acmp (g := (mkF m 4 #[.val (.ref a0)] [(.ref w_X), (.ref a0)])) X1 hx rfl rfl rfl (pc0 := 4) (pc' := 13) (same := false) rfl (hb hby d1_4) rfl (decide_eq_false fun q => hc4 (Value.ref.inj q)) (by decide) (by decide) ?_
      exact kt
    obtain ⟨T3, X3, e3, st3⟩ := getS2 X1 hx hZ hown (host := "") (Or.inl (own_wd hw 8 rfl)) Via.refl e1 S_Mark_X (g := (mkF m 13 #[.val (.ref a0)] [])) rfl (hb hby d1_13)
    refine OGo.step st3 ?_
    show OGo _ _ _ _ _ _ _ (T3.setTop (mkF m 16 #[.val (.ref a0)] [(.ref w_X)]))
    refine OGo.retA X3 hx hlk (t := (.object "com/example/trigrid/trigrid/Mark")) hret rfl rfl rfl (hb hby d1_16) ?_ (by decide) (by decide)
    exact ⟨(by rw [f1, if_neg hc4]), N0, e3⟩
/-! body 0: com/example/trigrid/trigrid/MarkOpponentPinLaw.law:(I)Z -/
theorem pn_0 : plainName "com/example/trigrid/trigrid/MarkOpponentPinLaw" = true := by first | (simp [plainName, overriddenIn]; done) | decide +kernel
theorem pd_0_0 : parseMethodDescriptor "()Lcom/example/trigrid/trigrid/Mark;" = some ⟨[], some (.object "com/example/trigrid/trigrid/Mark")⟩ := by decide +kernel
theorem ef_0 (m : MethodId) (x0 : Int32) : entryFrame m #[(.int x0)] maxLocals = mkF m 0 #[.val (.int x0), .unset, .unset, .unset, .unset] [] := by first | (simp [entryFrame, mkF, argsToLocals, Value.category, maxLocals]; done) | rfl
def f0 (p0 : Int32) : Int32 :=
  if (p0 &&& (1 : Int32)) = (0 : Int32) then (1 : Int32)
  else (1 : Int32)
theorem fb0 (p0 : Int32) : nar .boolean (f0 p0) = (f0 p0) := by
  unfold f0
  repeat' split
  all_goals first | rfl | decide
set_option maxRecDepth 65536 in
set_option maxHeartbeats 40000000 in
theorem rm0 (l : Launch) (Z : State) (az : Array Value) (hw : ∀ d ∈ tables_1, d.before az Z = true) (ws : List Jvm.Cond) (p0 : Int32) (w_X : Addr) (w_O : Addr) (h0 : Heap) (n0 : Nat) (Z0 : n0 ≤ h0.size) (neOX : w_O ≠ w_X) (S_Mark_O : Sta Z h0 "com/example/trigrid/trigrid/Mark" "O" "Lcom/example/trigrid/trigrid/Mark;" (.ref w_O)) (S_Mark_X : Sta Z h0 "com/example/trigrid/trigrid/Mark" "X" "Lcom/example/trigrid/trigrid/Mark;" (.ref w_X)) (E_w_O : Exa Z h0 w_O "com/example/trigrid/trigrid/Mark") (E_w_X : Exa Z h0 w_X "com/example/trigrid/trigrid/Mark") :
    OCtr l Z x code maxLocals ret ws room_1 #[(.int p0)] h0 (OPure (some (.int (f0 p0))) h0 n0) := by
  refine OCtr.of (plainFor_of_name pn_0) ?_
  intro p e s m below meth c s₁ X0 hx hlk hZ hown0 hnm hby hml0 hret e0
  have hown : s.vm.findClass "com/example/trigrid/trigrid/MarkOpponentPinLaw" = some m.cls := hown0
  have hml : c.maxLocals = 5 := hml0
  have N0 := Fr.nil n0
  refine OGo.step (fun t k => castTop (ef_0 m p0) k) ?_
  refine OGo.step (F' := s₁.setTop (mkF m 3 #[.val (.int p0), .unset, .unset, .unset, .unset] [(.int (p0 &&& (1 : Int32)))])) (fun t kt => ?_) ?_
  · show Steps p.tables e below (s₁.setTop (mkF m 0 #[.val (.int p0), .unset, .unset, .unset, .unset] [])) t
    refine XS.iloadN X0.here hx rfl (hb hby at_0) rfl ?_
    show Steps p.tables e below (s₁.setTop (mkF m 1 #[.val (.int p0), .unset, .unset, .unset, .unset] [(.int p0)])) t
    refine XS.iconst X0.here hx rfl (hb hby at_1) ?_
    show Steps p.tables e below (s₁.setTop (mkF m 2 #[.val (.int p0), .unset, .unset, .unset, .unset] [(.int (1 : Int32)), (.int p0)])) t
    refine XS.iand X0.here hx rfl (hb hby at_2) rfl ?_
    exact kt
  by_cases hc3 : (p0 &&& (1 : Int32)) = (0 : Int32)
  · refine OGo.step (F' := s₁.setTop (mkF m 10 #[.val (.int p0), .unset, .unset, .unset, .unset] [])) (fun t kt => ?_) ?_
    · show Steps p.tables e below (s₁.setTop (mkF m 3 #[.val (.int p0), .unset, .unset, .unset, .unset] [(.int (p0 &&& (1 : Int32)))])) t
      refine XS.ifYes X0.here hx rfl (pc0 := 3) (pc' := 10) rfl (hb hby at_3) rfl ((if0 _ _).trans (teq hc3).1) (by decide) (by decide) ?_
      exact kt
    refine OGo.step (F' := s₁.setTop (mkF m 22 #[.val (.int p0), .val (.int (0 : Int32)), .unset, .unset, .unset] [])) (fun t kt => ?_) ?_
    · show Steps p.tables e below (s₁.setTop (mkF m 10 #[.val (.int p0), .unset, .unset, .unset, .unset] [])) t
      refine XS.iconst X0.here hx rfl (hb hby at_10) ?_
      show Steps p.tables e below (s₁.setTop (mkF m 11 #[.val (.int p0), .unset, .unset, .unset, .unset] [(.int (0 : Int32))])) t
      refine XS.istoreN X0.here hx rfl (hb hby at_11) rfl (l' := #[.val (.int p0), .val (.int (0 : Int32)), .unset, .unset, .unset]) rfl ?_
      show Steps p.tables e below (s₁.setTop (mkF m 12 #[.val (.int p0), .val (.int (0 : Int32)), .unset, .unset, .unset] [])) t
      refine XS.iloadN X0.here hx rfl (hb hby at_12) rfl ?_
      show Steps p.tables e below (s₁.setTop (mkF m 13 #[.val (.int p0), .val (.int (0 : Int32)), .unset, .unset, .unset] [(.int (0 : Int32))])) t
      refine XS.ifYes X0.here hx rfl (pc0 := 13) (pc' := 22) rfl (hb hby at_13) rfl ((if0 _ _).trans (teq (by decide : (0 : Int32) = (0 : Int32))).1) (by decide) (by decide) ?_
      exact kt
    obtain ⟨T1, X1, e1, st1⟩ := getS2 X0 hx hZ hown (host := "") (Or.inl (own_wd hw 0 rfl)) Via.refl e0 S_Mark_O (g := (mkF m 22 #[.val (.int p0), .val (.int (0 : Int32)), .unset, .unset, .unset] [])) rfl (hb hby at_22)
    refine OGo.step st1 ?_
    show OGo _ _ _ _ _ _ _ (T1.setTop (mkF m 25 #[.val (.int p0), .val (.int (0 : Int32)), .unset, .unset, .unset] [(.ref w_O)]))
    refine OGo.step (F' := T1.setTop (mkF m 27 #[.val (.int p0), .val (.int (0 : Int32)), .val (.ref w_O), .unset, .unset] [(.ref w_O)])) (fun t kt => ?_) ?_
    · show Steps p.tables e below (T1.setTop (mkF m 25 #[.val (.int p0), .val (.int (0 : Int32)), .unset, .unset, .unset] [(.ref w_O)])) t
      refine XS.astoreN X1.here hx rfl (hb hby at_25) rfl rfl (l' := #[.val (.int p0), .val (.int (0 : Int32)), .val (.ref w_O), .unset, .unset]) rfl ?_
      show Steps p.tables e below (T1.setTop (mkF m 26 #[.val (.int p0), .val (.int (0 : Int32)), .val (.ref w_O), .unset, .unset] [])) t
      refine XS.aloadN X1.here hx rfl (hb hby at_26) rfl rfl ?_
      exact kt
    refine OGo.callV X1 hx hZ (y := (⟨"com/example/trigrid/trigrid/Mark", "opponent", "()Lcom/example/trigrid/trigrid/Mark;"⟩ : MethodName)) (z := (⟨"com/example/trigrid/trigrid/Mark", "opponent", "()Lcom/example/trigrid/trigrid/Mark;"⟩ : MethodName)) hown (own_wd hw 3 rfl) (own_wd hw 4 rfl) (notFace_of_selects (args := #[]) (mvT hZ (own_wd hw 6 rfl))) (own_wd hw 6 rfl) (own_wd hw 5 rfl) (own_wd hw 1 rfl) (own_wd hw 7 rfl) (by decide) (rm1 l Z az hw [] w_O w_X w_O h0 n0 Z0 S_Mark_X S_Mark_O) (W := 0) (by decide) (by decide) E_w_O (g := (mkF m 27 #[.val (.int p0), .val (.int (0 : Int32)), .val (.ref w_O), .unset, .unset] [(.ref w_O)])) rfl (by rw [hml]; rfl) (argsL := []) (rest := []) (lenOf pd_0_0 rfl) rfl (by show 2 * 0 + _ ≤ _; exact Nat.le_of_eq rfl) (hb hby at_27) rfl e1 (by decide) (by decide) ?_
    rintro _ T2 L2 X2 ⟨hv2, Nq2, e2⟩
    have N2 := Fr.app N0 Nq2
    rw [show f1 w_O w_X w_O = w_X from if_neg neOX] at hv2
    subst hv2
    show OGo _ _ _ _ _ _ _ (T2.setTop (mkF m 30 #[.val (.int p0), .val (.int (0 : Int32)), .val (.ref w_O), .unset, .unset] [(.ref w_X)]))
    refine OGo.step (F' := T2.setTop (mkF m 54 #[.val (.int p0), .val (.int (0 : Int32)), .val (.ref w_O), .val (.ref w_X), .unset] [])) (fun t kt => ?_) ?_
    · show Steps p.tables e below (T2.setTop (mkF m 30 #[.val (.int p0), .val (.int (0 : Int32)), .val (.ref w_O), .unset, .unset] [(.ref w_X)])) t
      refine XS.astoreN X2.here hx rfl (hb hby at_30) rfl rfl (l' := #[.val (.int p0), .val (.int (0 : Int32)), .val (.ref w_O), .val (.ref w_X), .unset]) rfl ?_
      show Steps p.tables e below (T2.setTop (mkF m 31 #[.val (.int p0), .val (.int (0 : Int32)), .val (.ref w_O), .val (.ref w_X), .unset] [])) t
      refine XS.aloadN X2.here hx rfl (hb hby at_31) rfl rfl ?_
      show Steps p.tables e below (T2.setTop (mkF m 32 #[.val (.int p0), .val (.int (0 : Int32)), .val (.ref w_O), .val (.ref w_X), .unset] [(.ref w_X)])) t
      refine XS.ifnonnullYes X2.here hx rfl (pc0 := 32) (pc' := 37) rfl (hb hby at_32) rfl (by decide) (by decide) ?_
      show Steps p.tables e below (T2.setTop (mkF m 37 #[.val (.int p0), .val (.int (0 : Int32)), .val (.ref w_O), .val (.ref w_X), .unset] [])) t
      refine XS.aloadN X2.here hx rfl (hb hby at_37) rfl rfl ?_
      show Steps p.tables e below (T2.setTop (mkF m 38 #[.val (.int p0), .val (.int (0 : Int32)), .val (.ref w_O), .val (.ref w_X), .unset] [(.ref w_X)])) t
      refine XS.aloadN X2.here hx rfl (hb hby at_38) rfl rfl ?_
      show Steps p.tables e below (T2.setTop (mkF m 39 #[.val (.int p0), .val (.int (0 : Int32)), .val (.ref w_O), .val (.ref w_X), .unset] [(.ref w_O), (.ref w_X)])) t
      refine Jvm.RoadKit.acmp (g := (mkF m 39 #[.val (.int p0), .val (.int (0 : Int32)), .val (.ref w_O), .val (.ref w_X), .unset] [(.ref w_O), (.ref w_X)])) X2 hx rfl rfl rfl (pc0 := 39) (pc' := 44) (same := false) rfl (hb hby at_39) rfl (decide_eq_false fun q => (Ne.symm neOX) (Value.ref.inj q)) (by decide) (by decide) ?_
      show Steps p.tables e below (T2.setTop (mkF m 44 #[.val (.int p0), .val (.int (0 : Int32)), .val (.ref w_O), .val (.ref w_X), .unset] [])) t
      refine XS.iloadN X2.here hx rfl (hb hby at_44) rfl ?_
      show Steps p.tables e below (T2.setTop (mkF m 45 #[.val (.int p0), .val (.int (0 : Int32)), .val (.ref w_O), .val (.ref w_X), .unset] [(.int (0 : Int32))])) t
      refine XS.ifYes X2.here hx rfl (pc0 := 45) (pc' := 54) rfl (hb hby at_45) rfl ((if0 _ _).trans (teq (by decide : (0 : Int32) = (0 : Int32))).1) (by decide) (by decide) ?_
      exact kt
    obtain ⟨T3, X3, e3, st3⟩ := getS2 X2 hx hZ hown (host := "") (Or.inl (own_wd hw 10 rfl)) Via.refl e2 S_Mark_X (g := (mkF m 54 #[.val (.int p0), .val (.int (0 : Int32)), .val (.ref w_O), .val (.ref w_X), .unset] [])) rfl (hb hby at_54)
    refine OGo.step st3 ?_
    show OGo _ _ _ _ _ _ _ (T3.setTop (mkF m 57 #[.val (.int p0), .val (.int (0 : Int32)), .val (.ref w_O), .val (.ref w_X), .unset] [(.ref w_X)]))
    refine OGo.step (F' := T3.setTop (mkF m 68 #[.val (.int p0), .val (.int (0 : Int32)), .val (.ref w_O), .val (.ref w_X), .val (.ref w_X)] [(.ref w_X)])) (fun t kt => ?_) ?_
    · show Steps p.tables e below (T3.setTop (mkF m 57 #[.val (.int p0), .val (.int (0 : Int32)), .val (.ref w_O), .val (.ref w_X), .unset] [(.ref w_X)])) t
      refine XS.astore X3.here hx rfl (hb hby at_57) rfl rfl (l' := #[.val (.int p0), .val (.int (0 : Int32)), .val (.ref w_O), .val (.ref w_X), .val (.ref w_X)]) rfl ?_
      show Steps p.tables e below (T3.setTop (mkF m 59 #[.val (.int p0), .val (.int (0 : Int32)), .val (.ref w_O), .val (.ref w_X), .val (.ref w_X)] [])) t
      refine XS.aloadN X3.here hx rfl (hb hby at_59) rfl rfl ?_
      show Steps p.tables e below (T3.setTop (mkF m 60 #[.val (.int p0), .val (.int (0 : Int32)), .val (.ref w_O), .val (.ref w_X), .val (.ref w_X)] [(.ref w_X)])) t
      refine XS.aload X3.here hx rfl (hb hby at_60) rfl rfl ?_
      show Steps p.tables e below (T3.setTop (mkF m 62 #[.val (.int p0), .val (.int (0 : Int32)), .val (.ref w_O), .val (.ref w_X), .val (.ref w_X)] [(.ref w_X), (.ref w_X)])) t
      refine Jvm.RoadKit.acmp (g := (mkF m 62 #[.val (.int p0), .val (.int (0 : Int32)), .val (.ref w_O), .val (.ref w_X), .val (.ref w_X)] [(.ref w_X), (.ref w_X)])) X3 hx rfl rfl rfl (pc0 := 62) (pc' := 67) (same := true) rfl (hb hby at_62) rfl (decide_eq_true rfl) (by decide) (by decide) ?_
      show Steps p.tables e below (T3.setTop (mkF m 67 #[.val (.int p0), .val (.int (0 : Int32)), .val (.ref w_O), .val (.ref w_X), .val (.ref w_X)] [])) t
      refine XS.aloadN X3.here hx rfl (hb hby at_67) rfl rfl ?_
      exact kt
    refine OGo.callV X3 hx hZ (y := (⟨"com/example/trigrid/trigrid/Mark", "opponent", "()Lcom/example/trigrid/trigrid/Mark;"⟩ : MethodName)) (z := (⟨"com/example/trigrid/trigrid/Mark", "opponent", "()Lcom/example/trigrid/trigrid/Mark;"⟩ : MethodName)) hown (own_wd hw 3 rfl) (own_wd hw 4 rfl) (notFace_of_selects (args := #[]) (mvT hZ (own_wd hw 6 rfl))) (own_wd hw 6 rfl) (own_wd hw 5 rfl) (own_wd hw 1 rfl) (own_wd hw 7 rfl) (by decide) (rm1 l Z az hw [] w_X w_X w_O h0 n0 Z0 S_Mark_X S_Mark_O) (W := 0) (by decide) (by decide) E_w_X (g := (mkF m 68 #[.val (.int p0), .val (.int (0 : Int32)), .val (.ref w_O), .val (.ref w_X), .val (.ref w_X)] [(.ref w_X)])) rfl (by rw [hml]; rfl) (argsL := []) (rest := []) (lenOf pd_0_0 rfl) rfl (by show 2 * 0 + _ ≤ _; exact Nat.le_of_eq rfl) (hb hby at_68) rfl e3 (by decide) (by decide) ?_
    rintro _ T4 L4 X4 ⟨hv4, Nq4, e4⟩
    have N4 := Fr.app N2 Nq4
    rw [show f1 w_X w_X w_O = w_O from if_pos rfl] at hv4
    subst hv4
    show OGo _ _ _ _ _ _ _ (T4.setTop (mkF m 71 #[.val (.int p0), .val (.int (0 : Int32)), .val (.ref w_O), .val (.ref w_X), .val (.ref w_X)] [(.ref w_O)]))
    refine OGo.step (F' := T4.setTop (mkF m 80 #[.val (.int p0), .val (.int (0 : Int32)), .val (.ref w_O), .val (.ref w_X), .val (.ref w_X)] [(.int (1 : Int32))])) (fun t kt => ?_) ?_
    · show Steps p.tables e below (T4.setTop (mkF m 71 #[.val (.int p0), .val (.int (0 : Int32)), .val (.ref w_O), .val (.ref w_X), .val (.ref w_X)] [(.ref w_O)])) t
      refine XS.aloadN X4.here hx rfl (hb hby at_71) rfl rfl ?_
      show Steps p.tables e below (T4.setTop (mkF m 72 #[.val (.int p0), .val (.int (0 : Int32)), .val (.ref w_O), .val (.ref w_X), .val (.ref w_X)] [(.ref w_O), (.ref w_O)])) t
      refine Jvm.RoadKit.acmp (g := (mkF m 72 #[.val (.int p0), .val (.int (0 : Int32)), .val (.ref w_O), .val (.ref w_X), .val (.ref w_X)] [(.ref w_O), (.ref w_O)])) X4 hx rfl rfl rfl (pc0 := 72) (pc' := 75) (same := true) rfl (hb hby at_72) rfl (decide_eq_true rfl) (by decide) (by decide) ?_
      show Steps p.tables e below (T4.setTop (mkF m 75 #[.val (.int p0), .val (.int (0 : Int32)), .val (.ref w_O), .val (.ref w_X), .val (.ref w_X)] [])) t
      refine XS.iconst X4.here hx rfl (hb hby at_75) ?_
      show Steps p.tables e below (T4.setTop (mkF m 76 #[.val (.int p0), .val (.int (0 : Int32)), .val (.ref w_O), .val (.ref w_X), .val (.ref w_X)] [(.int (1 : Int32))])) t
      refine XS.goto X4.here hx rfl (pc0 := 76) (pc' := 80) rfl (hb hby at_76) (by decide) (by decide) ?_
      exact kt
    refine OGo.retZ X4 hx hlk (t := .boolean) (z' := (1 : Int32)) hret (by simp) (hb hby at_80) rfl ?_ (by decide) (by decide)
    exact ⟨(by rw [f0, if_pos hc3]), N4, e4⟩
  · refine OGo.step (F' := s₁.setTop (mkF m 6 #[.val (.int p0), .unset, .unset, .unset, .unset] [])) (fun t kt => ?_) ?_
    · show Steps p.tables e below (s₁.setTop (mkF m 3 #[.val (.int p0), .unset, .unset, .unset, .unset] [(.int (p0 &&& (1 : Int32)))])) t
      refine XS.ifNo X0.here hx rfl (hb hby at_3) rfl ((if0 _ _).trans (feq hc3).1) ?_
      exact kt
    refine OGo.step (F' := s₁.setTop (mkF m 16 #[.val (.int p0), .val (.int (1 : Int32)), .unset, .unset, .unset] [])) (fun t kt => ?_) ?_
    · show Steps p.tables e below (s₁.setTop (mkF m 6 #[.val (.int p0), .unset, .unset, .unset, .unset] [])) t
      refine XS.iconst X0.here hx rfl (hb hby at_6) ?_
      show Steps p.tables e below (s₁.setTop (mkF m 7 #[.val (.int p0), .unset, .unset, .unset, .unset] [(.int (1 : Int32))])) t
      refine XS.goto X0.here hx rfl (pc0 := 7) (pc' := 11) rfl (hb hby at_7) (by decide) (by decide) ?_
      show Steps p.tables e below (s₁.setTop (mkF m 11 #[.val (.int p0), .unset, .unset, .unset, .unset] [(.int (1 : Int32))])) t
      refine XS.istoreN X0.here hx rfl (hb hby at_11) rfl (l' := #[.val (.int p0), .val (.int (1 : Int32)), .unset, .unset, .unset]) rfl ?_
      show Steps p.tables e below (s₁.setTop (mkF m 12 #[.val (.int p0), .val (.int (1 : Int32)), .unset, .unset, .unset] [])) t
      refine XS.iloadN X0.here hx rfl (hb hby at_12) rfl ?_
      show Steps p.tables e below (s₁.setTop (mkF m 13 #[.val (.int p0), .val (.int (1 : Int32)), .unset, .unset, .unset] [(.int (1 : Int32))])) t
      refine XS.ifNo X0.here hx rfl (hb hby at_13) rfl ((if0 _ _).trans (feq (by decide : ¬ ((1 : Int32) = (0 : Int32)))).1) ?_
      exact kt
    obtain ⟨T5, X5, e5, st5⟩ := getS2 X0 hx hZ hown (host := "") (Or.inl (own_wd hw 10 rfl)) Via.refl e0 S_Mark_X (g := (mkF m 16 #[.val (.int p0), .val (.int (1 : Int32)), .unset, .unset, .unset] [])) rfl (hb hby at_16)
    refine OGo.step st5 ?_
    show OGo _ _ _ _ _ _ _ (T5.setTop (mkF m 19 #[.val (.int p0), .val (.int (1 : Int32)), .unset, .unset, .unset] [(.ref w_X)]))
    refine OGo.step (F' := T5.setTop (mkF m 27 #[.val (.int p0), .val (.int (1 : Int32)), .val (.ref w_X), .unset, .unset] [(.ref w_X)])) (fun t kt => ?_) ?_
    · show Steps p.tables e below (T5.setTop (mkF m 19 #[.val (.int p0), .val (.int (1 : Int32)), .unset, .unset, .unset] [(.ref w_X)])) t
      refine XS.goto X5.here hx rfl (pc0 := 19) (pc' := 25) rfl (hb hby at_19) (by decide) (by decide) ?_
      show Steps p.tables e below (T5.setTop (mkF m 25 #[.val (.int p0), .val (.int (1 : Int32)), .unset, .unset, .unset] [(.ref w_X)])) t
      refine XS.astoreN X5.here hx rfl (hb hby at_25) rfl rfl (l' := #[.val (.int p0), .val (.int (1 : Int32)), .val (.ref w_X), .unset, .unset]) rfl ?_
      show Steps p.tables e below (T5.setTop (mkF m 26 #[.val (.int p0), .val (.int (1 : Int32)), .val (.ref w_X), .unset, .unset] [])) t
      refine XS.aloadN X5.here hx rfl (hb hby at_26) rfl rfl ?_
      exact kt
    refine OGo.callV X5 hx hZ (y := (⟨"com/example/trigrid/trigrid/Mark", "opponent", "()Lcom/example/trigrid/trigrid/Mark;"⟩ : MethodName)) (z := (⟨"com/example/trigrid/trigrid/Mark", "opponent", "()Lcom/example/trigrid/trigrid/Mark;"⟩ : MethodName)) hown (own_wd hw 3 rfl) (own_wd hw 4 rfl) (notFace_of_selects (args := #[]) (mvT hZ (own_wd hw 6 rfl))) (own_wd hw 6 rfl) (own_wd hw 5 rfl) (own_wd hw 1 rfl) (own_wd hw 7 rfl) (by decide) (rm1 l Z az hw [] w_X w_X w_O h0 n0 Z0 S_Mark_X S_Mark_O) (W := 0) (by decide) (by decide) E_w_X (g := (mkF m 27 #[.val (.int p0), .val (.int (1 : Int32)), .val (.ref w_X), .unset, .unset] [(.ref w_X)])) rfl (by rw [hml]; rfl) (argsL := []) (rest := []) (lenOf pd_0_0 rfl) rfl (by show 2 * 0 + _ ≤ _; exact Nat.le_of_eq rfl) (hb hby at_27) rfl e5 (by decide) (by decide) ?_
    rintro _ T6 L6 X6 ⟨hv6, Nq6, e6⟩
    have N6 := Fr.app N0 Nq6
    rw [show f1 w_X w_X w_O = w_O from if_pos rfl] at hv6
    subst hv6
    show OGo _ _ _ _ _ _ _ (T6.setTop (mkF m 30 #[.val (.int p0), .val (.int (1 : Int32)), .val (.ref w_X), .unset, .unset] [(.ref w_O)]))
    refine OGo.step (F' := T6.setTop (mkF m 48 #[.val (.int p0), .val (.int (1 : Int32)), .val (.ref w_X), .val (.ref w_O), .unset] [])) (fun t kt => ?_) ?_
    · show Steps p.tables e below (T6.setTop (mkF m 30 #[.val (.int p0), .val (.int (1 : Int32)), .val (.ref w_X), .unset, .unset] [(.ref w_O)])) t
      refine XS.astoreN X6.here hx rfl (hb hby at_30) rfl rfl (l' := #[.val (.int p0), .val (.int (1 : Int32)), .val (.ref w_X), .val (.ref w_O), .unset]) rfl ?_
      show Steps p.tables e below (T6.setTop (mkF m 31 #[.val (.int p0), .val (.int (1 : Int32)), .val (.ref w_X), .val (.ref w_O), .unset] [])) t
      refine XS.aloadN X6.here hx rfl (hb hby at_31) rfl rfl ?_
      show Steps p.tables e below (T6.setTop (mkF m 32 #[.val (.int p0), .val (.int (1 : Int32)), .val (.ref w_X), .val (.ref w_O), .unset] [(.ref w_O)])) t
      refine XS.ifnonnullYes X6.here hx rfl (pc0 := 32) (pc' := 37) rfl (hb hby at_32) rfl (by decide) (by decide) ?_
      show Steps p.tables e below (T6.setTop (mkF m 37 #[.val (.int p0), .val (.int (1 : Int32)), .val (.ref w_X), .val (.ref w_O), .unset] [])) t
      refine XS.aloadN X6.here hx rfl (hb hby at_37) rfl rfl ?_
      show Steps p.tables e below (T6.setTop (mkF m 38 #[.val (.int p0), .val (.int (1 : Int32)), .val (.ref w_X), .val (.ref w_O), .unset] [(.ref w_O)])) t
      refine XS.aloadN X6.here hx rfl (hb hby at_38) rfl rfl ?_
      show Steps p.tables e below (T6.setTop (mkF m 39 #[.val (.int p0), .val (.int (1 : Int32)), .val (.ref w_X), .val (.ref w_O), .unset] [(.ref w_X), (.ref w_O)])) t
      refine Jvm.RoadKit.acmp (g := (mkF m 39 #[.val (.int p0), .val (.int (1 : Int32)), .val (.ref w_X), .val (.ref w_O), .unset] [(.ref w_X), (.ref w_O)])) X6 hx rfl rfl rfl (pc0 := 39) (pc' := 44) (same := false) rfl (hb hby at_39) rfl (decide_eq_false fun q => neOX (Value.ref.inj q)) (by decide) (by decide) ?_
      show Steps p.tables e below (T6.setTop (mkF m 44 #[.val (.int p0), .val (.int (1 : Int32)), .val (.ref w_X), .val (.ref w_O), .unset] [])) t
      refine XS.iloadN X6.here hx rfl (hb hby at_44) rfl ?_
      show Steps p.tables e below (T6.setTop (mkF m 45 #[.val (.int p0), .val (.int (1 : Int32)), .val (.ref w_X), .val (.ref w_O), .unset] [(.int (1 : Int32))])) t
      refine XS.ifNo X6.here hx rfl (hb hby at_45) rfl ((if0 _ _).trans (feq (by decide : ¬ ((1 : Int32) = (0 : Int32)))).1) ?_
      exact kt
    obtain ⟨T7, X7, e7, st7⟩ := getS2 X6 hx hZ hown (host := "") (Or.inl (own_wd hw 0 rfl)) Via.refl e6 S_Mark_O (g := (mkF m 48 #[.val (.int p0), .val (.int (1 : Int32)), .val (.ref w_X), .val (.ref w_O), .unset] [])) rfl (hb hby at_48)
    refine OGo.step st7 ?_
    show OGo _ _ _ _ _ _ _ (T7.setTop (mkF m 51 #[.val (.int p0), .val (.int (1 : Int32)), .val (.ref w_X), .val (.ref w_O), .unset] [(.ref w_O)]))
    refine OGo.step (F' := T7.setTop (mkF m 68 #[.val (.int p0), .val (.int (1 : Int32)), .val (.ref w_X), .val (.ref w_O), .val (.ref w_O)] [(.ref w_O)])) (fun t kt => ?_) ?_
    · show Steps p.tables e below (T7.setTop (mkF m 51 #[.val (.int p0), .val (.int (1 : Int32)), .val (.ref w_X), .val (.ref w_O), .unset] [(.ref w_O)])) t
      refine XS.goto X7.here hx rfl (pc0 := 51) (pc' := 57) rfl (hb hby at_51) (by decide) (by decide) ?_
      show Steps p.tables e below (T7.setTop (mkF m 57 #[.val (.int p0), .val (.int (1 : Int32)), .val (.ref w_X), .val (.ref w_O), .unset] [(.ref w_O)])) t
      refine XS.astore X7.here hx rfl (hb hby at_57) rfl rfl (l' := #[.val (.int p0), .val (.int (1 : Int32)), .val (.ref w_X), .val (.ref w_O), .val (.ref w_O)]) rfl ?_
      show Steps p.tables e below (T7.setTop (mkF m 59 #[.val (.int p0), .val (.int (1 : Int32)), .val (.ref w_X), .val (.ref w_O), .val (.ref w_O)] [])) t
      refine XS.aloadN X7.here hx rfl (hb hby at_59) rfl rfl ?_
      show Steps p.tables e below (T7.setTop (mkF m 60 #[.val (.int p0), .val (.int (1 : Int32)), .val (.ref w_X), .val (.ref w_O), .val (.ref w_O)] [(.ref w_O)])) t
      refine XS.aload X7.here hx rfl (hb hby at_60) rfl rfl ?_
      show Steps p.tables e below (T7.setTop (mkF m 62 #[.val (.int p0), .val (.int (1 : Int32)), .val (.ref w_X), .val (.ref w_O), .val (.ref w_O)] [(.ref w_O), (.ref w_O)])) t
      refine Jvm.RoadKit.acmp (g := (mkF m 62 #[.val (.int p0), .val (.int (1 : Int32)), .val (.ref w_X), .val (.ref w_O), .val (.ref w_O)] [(.ref w_O), (.ref w_O)])) X7 hx rfl rfl rfl (pc0 := 62) (pc' := 67) (same := true) rfl (hb hby at_62) rfl (decide_eq_true rfl) (by decide) (by decide) ?_
      show Steps p.tables e below (T7.setTop (mkF m 67 #[.val (.int p0), .val (.int (1 : Int32)), .val (.ref w_X), .val (.ref w_O), .val (.ref w_O)] [])) t
      refine XS.aloadN X7.here hx rfl (hb hby at_67) rfl rfl ?_
      exact kt
    refine OGo.callV X7 hx hZ (y := (⟨"com/example/trigrid/trigrid/Mark", "opponent", "()Lcom/example/trigrid/trigrid/Mark;"⟩ : MethodName)) (z := (⟨"com/example/trigrid/trigrid/Mark", "opponent", "()Lcom/example/trigrid/trigrid/Mark;"⟩ : MethodName)) hown (own_wd hw 3 rfl) (own_wd hw 4 rfl) (notFace_of_selects (args := #[]) (mvT hZ (own_wd hw 6 rfl))) (own_wd hw 6 rfl) (own_wd hw 5 rfl) (own_wd hw 1 rfl) (own_wd hw 7 rfl) (by decide) (rm1 l Z az hw [] w_O w_X w_O h0 n0 Z0 S_Mark_X S_Mark_O) (W := 0) (by decide) (by decide) E_w_O (g := (mkF m 68 #[.val (.int p0), .val (.int (1 : Int32)), .val (.ref w_X), .val (.ref w_O), .val (.ref w_O)] [(.ref w_O)])) rfl (by rw [hml]; rfl) (argsL := []) (rest := []) (lenOf pd_0_0 rfl) rfl (by show 2 * 0 + _ ≤ _; exact Nat.le_of_eq rfl) (hb hby at_68) rfl e7 (by decide) (by decide) ?_
    rintro _ T8 L8 X8 ⟨hv8, Nq8, e8⟩
    have N8 := Fr.app N6 Nq8
    rw [show f1 w_O w_X w_O = w_X from if_neg neOX] at hv8
    subst hv8
    show OGo _ _ _ _ _ _ _ (T8.setTop (mkF m 71 #[.val (.int p0), .val (.int (1 : Int32)), .val (.ref w_X), .val (.ref w_O), .val (.ref w_O)] [(.ref w_X)]))
    refine OGo.step (F' := T8.setTop (mkF m 80 #[.val (.int p0), .val (.int (1 : Int32)), .val (.ref w_X), .val (.ref w_O), .val (.ref w_O)] [(.int (1 : Int32))])) (fun t kt => ?_) ?_
    · show Steps p.tables e below (T8.setTop (mkF m 71 #[.val (.int p0), .val (.int (1 : Int32)), .val (.ref w_X), .val (.ref w_O), .val (.ref w_O)] [(.ref w_X)])) t
      refine XS.aloadN X8.here hx rfl (hb hby at_71) rfl rfl ?_
      show Steps p.tables e below (T8.setTop (mkF m 72 #[.val (.int p0), .val (.int (1 : Int32)), .val (.ref w_X), .val (.ref w_O), .val (.ref w_O)] [(.ref w_X), (.ref w_X)])) t
      refine Jvm.RoadKit.acmp (g := (mkF m 72 #[.val (.int p0), .val (.int (1 : Int32)), .val (.ref w_X), .val (.ref w_O), .val (.ref w_O)] [(.ref w_X), (.ref w_X)])) X8 hx rfl rfl rfl (pc0 := 72) (pc' := 75) (same := true) rfl (hb hby at_72) rfl (decide_eq_true rfl) (by decide) (by decide) ?_
      show Steps p.tables e below (T8.setTop (mkF m 75 #[.val (.int p0), .val (.int (1 : Int32)), .val (.ref w_X), .val (.ref w_O), .val (.ref w_O)] [])) t
      refine XS.iconst X8.here hx rfl (hb hby at_75) ?_
      show Steps p.tables e below (T8.setTop (mkF m 76 #[.val (.int p0), .val (.int (1 : Int32)), .val (.ref w_X), .val (.ref w_O), .val (.ref w_O)] [(.int (1 : Int32))])) t
      refine XS.goto X8.here hx rfl (pc0 := 76) (pc' := 80) rfl (hb hby at_76) (by decide) (by decide) ?_
      exact kt
    refine OGo.retZ X8 hx hlk (t := .boolean) (z' := (1 : Int32)) hret (by simp) (hb hby at_80) rfl ?_ (by decide) (by decide)
    exact ⟨(by rw [f0, if_neg hc3]), N8, e8⟩
theorem own_law (a : Int32) : f0 a = 1 := by
  unfold f0
  repeat' split
  all_goals rfl
set_option maxRecDepth 65536 in
set_option maxHeartbeats 40000000 in
theorem comes_1 {Post : Tables → Env → Array Value → State → Outcome → State → Prop} (hpost : ∀ tb e args s v u, (limb_1_1.after args s (.returned v) u = true ∧ limb_1_2.after args s (.returned v) u = true ∧ True) → FrameEnd s (.returned v) u (Jvm.fieldLocs frame_1_writes args s ++ Jvm.arrayLocs frame_1_arrays args s ++ Jvm.staticLocs frame_1_statics s) 0 0 → Post tb e args s (.returned v) u) :
    ArmFor flags0 classFile x code maxLocals ret World_1 tables_1 room_1 Calls_1 rest_1 Pre_1 Post := by
  intro l hfl _ _ p e ha hc hk s m args below hf hA hF happ hP
  obtain ⟨hcalls, hrest, hpre⟩ := hP
  obtain ⟨-, -, -, hnamed, -, -, -, hat⟩ := (Spec.applies_iff hf).mp happ
  obtain ⟨hg, hn⟩ := and_e (Cond.before_iff.mp (show (Jvm.Cond.and given_1 narrow_1).before args s = true from hpre))
  obtain ⟨gc, gr0⟩ := and_e hg
  have ga0 := gr0
  obtain ⟨w0, rfl⟩ : ∃ w0 : Value, args = #[w0] := by
    have hs : args.size = 1 := by simpa [Cond.value, given_1] using gc
    obtain ⟨L⟩ := args
    match L, hs with
    | [w0], _ => exact ⟨w0, rfl⟩
  have hw := fun d (hd : d ∈ tables_1) => atoms_spec (ws := Jvm.Cond.code x code maxLocals ret :: tables_1) hat d (List.mem_cons_of_mem _ hd)
  have hfit : Fit s := fun {y c} hc i hi => by
    obtain ⟨ha, rfl⟩ := Array.getElem?_eq_some_iff.mp hc
    have q := List.all_eq_true.mp ((Array.all_eq_true_iff_forall_mem.mp hF) _ (Array.getElem_mem ha)) i (List.mem_range.mpr hi)
    simpa [Array.getElem?_eq_getElem hi] using q
  obtain ⟨i0, ei0⟩ := is_v ga0
  obtain rfl : w0 = (.int i0) := Option.some.inj ei0
  obtain ⟨nc0, nr0⟩ := and_e hn
  obtain ⟨nc1, nr1⟩ := and_e nr0
  obtain ⟨nc2, nr2⟩ := and_e nr1
  have nc3 := nr2
  obtain ⟨w_O, _, _, _, ev_w_O, -⟩ := Cond.exactly_spec (Cond.before_iff.mpr nc0)
  have S_Mark_O : Sta s s.heap "com/example/trigrid/trigrid/Mark" "O" "Lcom/example/trigrid/trigrid/Mark;" (.ref w_O) := Sta.start ev_w_O (Or.inr ⟨(own_wd hw 1 rfl), (own_wd hw 2 rfl)⟩)
  have E_w_O : Exa s s.heap w_O "com/example/trigrid/trigrid/Mark" := Exa.start ev_w_O nc0
  obtain ⟨w_X, _, _, _, ev_w_X, -⟩ := Cond.exactly_spec (Cond.before_iff.mpr nc1)
  have S_Mark_X : Sta s s.heap "com/example/trigrid/trigrid/Mark" "X" "Lcom/example/trigrid/trigrid/Mark;" (.ref w_X) := Sta.start ev_w_X (Or.inr ⟨(own_wd hw 1 rfl), (own_wd hw 9 rfl)⟩)
  have E_w_X : Exa s s.heap w_X "com/example/trigrid/trigrid/Mark" := Exa.start ev_w_X nc1
  have F_ordinal_w_O : Fld s s.heap w_O "java/lang/Enum" "ordinal" "I" (.int (1 : Int32)) := own_fld ev_w_O nc2
  have F_ordinal_w_X : Fld s s.heap w_X "java/lang/Enum" "ordinal" "I" (.int (0 : Int32)) := own_fld ev_w_X nc3
  have neOX : w_O ≠ w_X := F_ordinal_w_O.ne F_ordinal_w_X (by decide)
  obtain ⟨n, o, h1, h2, h3, _, L, rfl, ⟨hv, N, -⟩, hq⟩ := rm0 l s _ hw tables_1 i0 w_X w_O s.heap s.heap.size (Nat.le_refl _) neOX S_Mark_O S_Mark_X E_w_O E_w_X p e ha hc hk s m _ below hf ((Spec.applies_iff_loose hf).mp happ).1 ⟨rfl, State.Warmed39.refl s, rfl⟩ trivial
  rw [own_law] at hv
  subst hv
  refine ⟨n, _, h1, h2, h3, hpost _ _ _ _ _ _ ⟨Cond.after_iff.mpr rfl, Cond.after_iff.mpr (eq_i res_at (Term.int_eval (1)) rfl), trivial⟩ ⟨hq.1, hq.2.1, (hq.2.2.sift fun y hy => Or.inr (N y hy)).mono (by decide) (by decide)⟩⟩
theorem main_1_1 : Claimed_1_1 := comes_1 fun _ _ _ _ _ _ h hF => ⟨h.1, hF⟩
theorem main_1_2 : Claimed_1_2 := comes_1 fun _ _ _ _ _ _ h hF => ⟨h.2.1, hF⟩
end Jvm.Pilot.@@N@@
namespace Jvm.Pilot.@@N@@
open Jvm Jvm.ClassFile Sem Op Lib Jvm.Free Jvm.Stand Jvm.Pilot.@@N@@.Jvm.D
/-! MADE BY PROGRAM (witnessworld.py) out of the Statement's table words and the real class files: 12 classes; the members and pool entries that the words name. The judged class is class 1, her method 1. -/
namespace start1
open Jvm.ClassFile
def u (s : String) : CpInfo := .utf8 (stringToUtf16 s)
/-- a pool by its gaps: so many unusable entries, then the entry; so many at the end -/
def gap : Nat → List CpInfo → List CpInfo
  | 0, r => r
  | n + 1, r => .unusable :: gap n r
def poolList (es : List (Nat × CpInfo)) (last : Nat) : List CpInfo := es.foldr (fun e r => gap e.1 (e.2 :: r)) (gap last [])
def pool (es : List (Nat × CpInfo)) (last : Nat) : Array CpInfo := ⟨poolList es last⟩
def fileOf (pool : Array CpInfo) (this : Nat) (attrs : Array Attribute := #[]) (ms : Array MethodInfo := #[]) (fl : Nat := 33) (sup : Nat := 0) (ifs : Array Nat := #[]) (fds : Array FieldInfo := #[]) : ClassFile where
  minorVersion := 0
  majorVersion := 65
  constantPool := pool
  accessFlags := fl
  thisClass := this
  superClass := sup
  interfaces := ifs
  fields := fds
  methods := ms
  attributes := attrs
def plain (name : String) (sup : Option ClassId) : Class where
  name := name
  kind := .ordinary
  loader := none
  accessFlags := 33
  super := sup
  interfaces := #[]
  cf := none
  fields := #[]
  methods := #[]
  instanceTypes := #[]
  staticTypes := #[]
  resolved := #[]
  callSites := []
  init := .initialized
  statics := none
  mirror := none

def pool0 : Array CpInfo := pool [(5, u "<init>"), (0, u "()V"), (1, .class_ 10), (1, u "java/lang/Object")] 113

def k0m0 : Method := { name := "<init>", desc := "()V", sig := { parameters := [], returnType := none }, accessFlags := 1, code := none }
/-- java/lang/Object -/
def k0 : Class := { plain "java/lang/Object" none with
  accessFlags := 33
  interfaces := #[]
  cf := some (fileOf pool0 8 #[] #[{ accessFlags := 1, nameIndex := 5, descriptorIndex := 6, attributes := #[] }] 33 0 #[] #[])
  fields := #[]
  methods := #[k0m0]
  instanceTypes := #[]
  staticTypes := #[]
  resolved := Array.replicate 124 none
  statics := none }

def pool1 : Array CpInfo := pool [(2, .class_ 4), (1, u "java/lang/Object"), (0, u "<init>"), (0, u "()V"), (0, .fieldref 8 9), (0, .class_ 10), (0, .nameAndType 11 12), (0, u "com/example/trigrid/trigrid/Mark"), (0, u "X"), (0, u "Lcom/example/trigrid/trigrid/Mark;"), (0, .fieldref 8 14), (0, .nameAndType 15 12), (0, u "O"), (0, .methodref 8 17), (0, .nameAndType 18 19), (0, u "opponent"), (0, u "()Lcom/example/trigrid/trigrid/Mark;"), (0, .class_ 21), (0, u "com/example/trigrid/trigrid/MarkOpponentPinLaw"), (2, u "law"), (0, u "(I)Z")] 3

def k1m0 : Method := { name := "<init>", desc := "()V", sig := { parameters := [], returnType := none }, accessFlags := 1, code := none }
def k1c1 : Code := { maxStack := 2, maxLocals := 5, code := code, exceptionTable := #[], attributes := #[] }
def k1m1 : Method := { name := "law", desc := "(I)Z", sig := { parameters := [.int], returnType := some .boolean }, accessFlags := 9, code := some k1c1 }
/-- com/example/trigrid/trigrid/MarkOpponentPinLaw -/
def k1 : Class := { plain "com/example/trigrid/trigrid/MarkOpponentPinLaw" (some 0) with
  accessFlags := 49
  interfaces := #[]
  cf := some (fileOf pool1 20 #[] #[{ accessFlags := 1, nameIndex := 5, descriptorIndex := 6, attributes := #[] }, { accessFlags := 9, nameIndex := 24, descriptorIndex := 25, attributes := #[] }] 49 2 #[] #[])
  fields := #[]
  methods := #[k1m0, k1m1]
  instanceTypes := #[]
  staticTypes := #[]
  resolved := Array.replicate 29 none
  statics := none }

def pool2 : Array CpInfo := pool [(1, .class_ 2), (0, u "java/lang/constant/Constable"), (0, .class_ 4), (0, u "java/lang/Object")] 6

/-- java/lang/constant/Constable -/
def k2 : Class := { plain "java/lang/constant/Constable" (some 0) with
  accessFlags := 1537
  interfaces := #[]
  cf := some (fileOf pool2 1 #[] #[] 1537 3 #[] #[])
  fields := #[]
  methods := #[]
  instanceTypes := #[]
  staticTypes := #[]
  resolved := Array.replicate 11 none
  statics := none }

def pool3 : Array CpInfo := pool [(1, .class_ 2), (0, u "java/lang/Comparable"), (0, .class_ 4), (0, u "java/lang/Object")] 7

/-- java/lang/Comparable -/
def k3 : Class := { plain "java/lang/Comparable" (some 0) with
  accessFlags := 1537
  interfaces := #[]
  cf := some (fileOf pool3 1 #[] #[] 1537 3 #[] #[])
  fields := #[]
  methods := #[]
  instanceTypes := #[]
  staticTypes := #[]
  resolved := Array.replicate 12 none
  statics := none }

def pool4 : Array CpInfo := pool [(1, .class_ 2), (0, u "java/io/Serializable"), (0, .class_ 4), (0, u "java/lang/Object")] 2

/-- java/io/Serializable -/
def k4 : Class := { plain "java/io/Serializable" (some 0) with
  accessFlags := 1537
  interfaces := #[]
  cf := some (fileOf pool4 1 #[] #[] 1537 3 #[] #[])
  fields := #[]
  methods := #[]
  instanceTypes := #[]
  staticTypes := #[]
  resolved := Array.replicate 7 none
  statics := none }

def pool5 : Array CpInfo := pool [(2, .class_ 4), (1, u "java/lang/Enum"), (0, u "name"), (0, u "Ljava/lang/String;"), (2, u "ordinal"), (0, u "I"), (1, .class_ 14), (1, u "java/lang/Object"), (4, u "hash"), (86, .class_ 108), (1, u "java/lang/Enum$EnumDesc"), (2, .class_ 112), (0, u "java/lang/constant/Constable"), (0, .class_ 114), (0, u "java/lang/Comparable"), (0, .class_ 116), (0, u "java/io/Serializable")] 87

/-- java/lang/Enum -/
def k5 : Class := { plain "java/lang/Enum" (some 0) with
  accessFlags := 1057
  interfaces := #[2, 3, 4]
  cf := some (fileOf pool5 2 #[.nestMembers #[106]] #[] 1057 12 #[111, 113, 115] #[{ accessFlags := 18, nameIndex := 5, descriptorIndex := 6, attributes := #[] }, { accessFlags := 18, nameIndex := 9, descriptorIndex := 10, attributes := #[] }, { accessFlags := 2, nameIndex := 19, descriptorIndex := 10, attributes := #[] }])
  fields := #[{ name := "name", type := (.object "java/lang/String"), accessFlags := 18, slot := 0, constantValue := 0 }, { name := "ordinal", type := .int, accessFlags := 18, slot := 1, constantValue := 0 }, { name := "hash", type := .int, accessFlags := 2, slot := 2, constantValue := 0 }]
  methods := #[]
  instanceTypes := #[(.object "java/lang/String"), .int, .int]
  staticTypes := #[]
  resolved := Array.replicate 204 none
  statics := none }

def pool6 : Array CpInfo := pool [(1, .class_ 2), (0, u "com/example/trigrid/trigrid/Mark"), (0, .fieldref 1 4), (0, .nameAndType 5 6), (0, u "X"), (0, u "Lcom/example/trigrid/trigrid/Mark;"), (0, .fieldref 1 8), (0, .nameAndType 9 6), (0, u "O"), (2, u "$VALUES"), (0, u "[Lcom/example/trigrid/trigrid/Mark;"), (6, .class_ 22), (1, u "java/lang/Enum"), (8, u "symbol"), (0, u "C"), (17, u "opponent"), (0, u "()Lcom/example/trigrid/trigrid/Mark;")] 6

def k6c0 : Code := { maxStack := 2, maxLocals := 1, code := prog_7_method_5_code, exceptionTable := #[], attributes := #[] }
def k6m0 : Method := { name := "opponent", desc := "()Lcom/example/trigrid/trigrid/Mark;", sig := { parameters := [], returnType := some (.object "com/example/trigrid/trigrid/Mark") }, accessFlags := 1, code := some k6c0 }
/-- com/example/trigrid/trigrid/Mark -/
def k6 : Class := { plain "com/example/trigrid/trigrid/Mark" (some 5) with
  accessFlags := 16433
  interfaces := #[]
  cf := some (fileOf pool6 1 #[] #[{ accessFlags := 1, nameIndex := 50, descriptorIndex := 51, attributes := #[] }] 16433 20 #[] #[{ accessFlags := 16409, nameIndex := 5, descriptorIndex := 6, attributes := #[] }, { accessFlags := 16409, nameIndex := 9, descriptorIndex := 6, attributes := #[] }, { accessFlags := 18, nameIndex := 31, descriptorIndex := 32, attributes := #[] }, { accessFlags := 4122, nameIndex := 12, descriptorIndex := 13, attributes := #[] }])
  fields := #[{ name := "X", type := (.object "com/example/trigrid/trigrid/Mark"), accessFlags := 16409, slot := 0, constantValue := 0 }, { name := "O", type := (.object "com/example/trigrid/trigrid/Mark"), accessFlags := 16409, slot := 1, constantValue := 0 }, { name := "symbol", type := .char, accessFlags := 18, slot := 3, constantValue := 0 }, { name := "$VALUES", type := (.array (.object "com/example/trigrid/trigrid/Mark")), accessFlags := 4122, slot := 2, constantValue := 0 }]
  methods := #[k6m0]
  instanceTypes := #[(.object "java/lang/String"), .int, .int, .char]
  staticTypes := #[(.object "com/example/trigrid/trigrid/Mark"), (.object "com/example/trigrid/trigrid/Mark"), (.array (.object "com/example/trigrid/trigrid/Mark"))]
  resolved := Array.replicate 58 none
  statics := some 0 }

def pool7 : Array CpInfo := pool [(1, u "java/lang/Cloneable"), (0, .class_ 1), (0, u "java/lang/Object"), (0, .class_ 3)] 3

/-- java/lang/Cloneable -/
def k7 : Class := { plain "java/lang/Cloneable" (some 0) with
  accessFlags := 1537
  interfaces := #[]
  cf := some (fileOf pool7 2 #[] #[] 1537 4 #[] #[])
  fields := #[]
  methods := #[]
  instanceTypes := #[]
  staticTypes := #[]
  resolved := Array.replicate 8 none
  statics := none }

/-- the primitive byte -/
def k8 : Class := { plain "byte" none with kind := .primitive 'B', accessFlags := 0x411 }
/-- [B -/
def k9 : Class := { plain "[B" (some 0) with kind := .array 8 .byte, interfaces := #[7, 4], accessFlags := 1041 }

/-- the primitive int -/
def k10 : Class := { plain "int" none with kind := .primitive 'I', accessFlags := 0x411 }
/-- [I -/
def k11 : Class := { plain "[I" (some 0) with kind := .array 10 .int, interfaces := #[7, 4], accessFlags := 1041 }

def heap : Heap := #[{ cls := 6, slots := #[.ref 1, .ref 2, .null], vm := .statics 6 },
  { cls := 6, slots := #[.null, .int 0, .int 0, .int 120], vm := .none },
  { cls := 6, slots := #[.null, .int 1, .int 0, .int 111], vm := .none }]
def classes : Array Class := #[k0, k1, k2, k3, k4, k5, k6, k7, k8, k9, k10, k11]
def interned : List (Array UInt16 × Addr) := []
def slotsUsed : Nat := 11
def theMethod : MethodId := ⟨1, 1⟩
def args0 : Array Value := #[.int 5]
def aboutOver (below : List Frame) : State where
  vm := { classes := classes, interned := interned.toArray }
  heap := heap
  slotsUsed := slotsUsed
  threads := #[{ frames := .invoking theMethod args0 :: below }]
def below0 : List Frame := [.native { method := ⟨0, 0⟩, args := #[] }]
def about1 : State := aboutOver below0
def p0 : Program := .bare "" "" ""
def e0 : Env := launch0.env 0 0 0
theorem w_frames : about1.frames = Frame.invoking theMethod args0 :: below0 := rfl
set_option maxRecDepth 65536 in
theorem w_args : argsFit about1.vm theMethod args0 = true := by decide +kernel
set_option maxRecDepth 65536 in
theorem w_heap : heapFits about1 = true := by decide +kernel
set_option maxRecDepth 65536 in
theorem w_runnable : about1.curStatus? = some .runnable := by decide +kernel
set_option maxRecDepth 65536 in
theorem w_alone : about1.alone = true := by decide +kernel
set_option maxRecDepth 65536 in
theorem w_named : about1.methodNamed? x = some theMethod := by decide +kernel
set_option maxRecDepth 65536 in
theorem w_hears : about1.hears theMethod below0 = true := by decide +kernel
set_option maxRecDepth 65536 in
theorem w_ripe : about1.ripe theMethod args0 below0 = true := by decide +kernel
theorem w_running : about1.status = .running := rfl
set_option maxRecDepth 65536 in
theorem w_room : about1.hasRoom e0.platform room_1 = true :=
  launch0.hasRoom_least _ room_1 (by decide +kernel) (by decide +kernel) (by decide +kernel) (by decide +kernel) (by decide +kernel) (by decide +kernel)
theorem allAtoms_all (ts : List Jvm.Cond) (a : Array Jvm.Value) (st : Jvm.State) : (allAtoms ts).before a st = ts.all (fun c => c.before a st) := by
  induction ts with
  | nil => rfl
  | cons c t ih =>
    show (Jvm.Cond.and c (allAtoms t)).before a st = _
    rw [Jvm.Cond.before_and, ih, List.all_cons]
def words1 : List Jvm.Cond := Jvm.Cond.code x code maxLocals ret :: tables_1
/-- a 'code' word, met by the world's own term for the bytes: nothing is compared byte by byte -/
theorem code_word {y : MethodName} {bytes : ByteArray} {mx : Nat} {rt : Option FieldType} {a : Array Value} {s : State} {m : MethodId} {meth : Method} {c : Code} (h1 : s.methodNamed? y = some m) (h2 : s.vm.method? m = some meth) (h3 : meth.code = some c) (h4 : c.code = bytes)
    (h5 : (c.maxLocals == mx && c.exceptionTable.isEmpty && decide (c.maxStack ≤ mostOperands) && decide (meth.sig.returnType = rt) && !meth.locks && decide (parseMethodDescriptor y.desc = some meth.sig)) = true) : (Jvm.Cond.code y bytes mx rt).before a s = true := by
  simp only [Bool.and_eq_true, beq_iff_eq, Bool.not_eq_true', decide_eq_true_eq] at h5
  obtain ⟨⟨⟨⟨⟨g1, g2⟩, g3⟩, g4⟩, g5⟩, g6⟩ := h5
  simp [Cond.before, Cond.holds, Cond.value, h1, h2, h3, h4, g1, g2, g3, g4, g5, g6]
def isCode : Jvm.Cond → Bool
  | .code _ _ _ _ => true
  | _ => false
theorem all_split {L : List Jvm.Cond} {P : Jvm.Cond → Bool} (h1 : L.all (fun c => isCode c || P c) = true) (h2 : ∀ c ∈ L.filter isCode, P c = true) : L.all P = true := by
  refine List.all_eq_true.mpr fun c hc => ?_
  have h := List.all_eq_true.mp h1 c hc
  rcases Bool.eq_false_or_eq_true (isCode c) with hi | hi
  · exact h2 c (List.mem_filter.mpr ⟨hc, hi⟩)
  · simpa [hi] using h
set_option maxRecDepth 65536 in
theorem w_c0 : (Jvm.Cond.code x code maxLocals ret).before args0 about1 = true := code_word (m := ⟨1, 1⟩) (meth := k1m1) (c := k1c1) (by decide +kernel) rfl rfl rfl (by decide +kernel)
set_option maxRecDepth 65536 in
theorem w_c1 : (Jvm.Cond.code ({ cls := "com/example/trigrid/trigrid/Mark", name := "opponent", desc := "()Lcom/example/trigrid/trigrid/Mark;" } : Jvm.MethodName) prog_7_method_5_code (1 : Nat) (Option.some (Jvm.ClassFile.FieldType.object "com/example/trigrid/trigrid/Mark"))).before args0 about1 = true := code_word (m := ⟨6, 0⟩) (meth := k6m0) (c := k6c0) (by decide +kernel) rfl rfl rfl (by decide +kernel)
def codes1 : List Jvm.Cond := [Jvm.Cond.code x code maxLocals ret, Jvm.Cond.code ({ cls := "com/example/trigrid/trigrid/Mark", name := "opponent", desc := "()Lcom/example/trigrid/trigrid/Mark;" } : Jvm.MethodName) prog_7_method_5_code (1 : Nat) (Option.some (Jvm.ClassFile.FieldType.object "com/example/trigrid/trigrid/Mark"))]
set_option maxRecDepth 65536 in
theorem codes_eq : words1.filter isCode = codes1 := rfl
theorem w_codes : ∀ c ∈ words1.filter isCode, c.before args0 about1 = true := by
  rw [codes_eq]
  intro c hc
  simp only [codes1, List.mem_cons, List.not_mem_nil, or_false] at hc
  rcases hc with rfl | rfl
  · exact w_c0
  · exact w_c1
set_option maxRecDepth 65536 in
theorem w_t1 : words1.all (fun c => isCode c || c.before args0 about1) = true := by decide +kernel
theorem w_tables : (allAtoms (Jvm.Cond.code x code maxLocals ret :: tables_1)).before args0 about1 = true := by
  rw [allAtoms_all]
  show words1.all (fun c => c.before args0 about1) = true
  refine all_split ?_ w_codes
  rw [w_t1]
set_option maxRecDepth 65536 in
theorem w_case : (Jvm.Cond.and given_1 narrow_1).before args0 about1 = true := by decide +kernel
theorem w_applies : (headSpec (Jvm.Cond.code x code maxLocals ret :: tables_1) room_1).applies x e0.platform about1 = true :=
  (Spec.applies_iff w_frames).mpr ⟨w_running, w_runnable, w_alone, w_named, w_hears, w_ripe, w_room, w_tables⟩
theorem atStart : AtStart classFile x code maxLocals ret World_1 tables_1 room_1 Calls_1 rest_1 Pre_1 launch0 p0 e0 about1 theMethod args0 below0 :=
  ⟨lists_1, trivial, launch0.admits_env _ _ _, launch0.least_env, fairChoices_fair.cas, fairChoices_fair.clock, w_frames, w_args, w_heap, w_applies, trivial, trivial, w_case⟩
end start1
theorem witness_1 : WitnessClaimed_1 := ⟨start1.p0, start1.e0, start1.about1, start1.theMethod, start1.args0, start1.below0, start1.atStart⟩
end Jvm.Pilot.@@N@@
