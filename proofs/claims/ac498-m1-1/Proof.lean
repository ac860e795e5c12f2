import JvmDerived
import JvmDerived.Pilot.@@N@@Statement
import JvmDerived.Pilot.@@N@@Code
set_option linter.unusedVariables false
set_option linter.unusedSimpArgs false
namespace Jvm.Pilot.@@N@@
open Jvm Jvm.ClassFile Sem Op Lib Jvm.Free Jvm.Stand Jvm.LawKit Jvm.RoadKit Bundle Jvm.Pilot.@@N@@.Jvm.D
section OwnKit
variable {p : Program} {l : Launch} {e : Env} {R : Room} {s : State} {m : MethodId} {args : Array Value} {below : List Frame} {meth : Method} {c : Code} {T : State} {locs : List Loc} {cells slots : Nat} {Z : State} {a0 : Array Value} {h : Heap} {Q : Option Value → Heap → List Loc → Prop} {kc ks : Nat}
/-- from the state F the run comes to its return, with what Q says -/
def OGo (p : Program) (e : Env) (below : List Frame) (s : State) (Q : Option Value → Heap → List Loc → Prop) (kc ks : Nat) (F : State) : Prop :=
  ∃ (s₂ : State) (o : Outcome), Steps p.tables e below F s₂ ∧ s₂.status = .running ∧ Ended s₂ below o ∧ ∃ v L, o = .returned v ∧ Q v s₂.heap L ∧ FrameEnd s o s₂ L kc ks
theorem OGo.step {F F' : State} (k : ∀ t, Steps p.tables e below F' t → Steps p.tables e below F t) (g : OGo p e below s Q kc ks F') : OGo p e below s Q kc ks F := by
  obtain ⟨s₂, o, h, r⟩ := g
  exact ⟨s₂, o, k _ h, r⟩
theorem OGo.retOut (X : Stand p l e R s m args below meth c T locs cells slots) (hx : p.tables.exec = Jvm.exec) (hlk : meth.locks = false) {pc : Nat} {Ls : Array Slot} {w : Value} {t : FieldType} {i : Instr} {rest : List Value} (hret : meth.sig.returnType = some t) (hn : narrow t w = w)
    (hi : (i = .ireturn ∧ (t = .int ∨ t = .boolean ∨ t = .byte ∨ t = .char ∨ t = .short) ∧ ∃ z, w = .int z) ∨ (i = .lreturn ∧ t = .long ∧ ∃ z, w = .long z) ∨ (i = .dreturn ∧ t = .double ∧ ∃ z, w = .double z) ∨ (i = .freturn ∧ t = .float ∧ ∃ z, w = .float z) ∨ (i = .areturn ∧ t.isReference = true ∧ w.isRef = true))
    (hd : decode c.code pc = .ok (i, 1)) (hQ : Q (some w) T.heap locs) (hc : cells ≤ kc) (hs : slots ≤ ks) : OGo p e below s Q kc ks (T.setTop (mkF m pc Ls (w :: rest))) := by
  obtain ⟨fs, hr, hrun, hended, hW, hsame⟩ := X.leave (v := some w) (fun h => by rw [hret] at h; cases h) hlk
  exact ⟨_, _, Jvm.RoadKit.retOut X hx hret hn hi hd hr, hrun, hended, _, _, rfl, hQ, ⟨_, rfl⟩, hW, hsame.mono hc hs⟩
theorem OGo.retI (X : Stand p l e R s m args below meth c T locs cells slots) (hx : p.tables.exec = Jvm.exec) (hlk : meth.locks = false) {pc : Nat} {Ls : Array Slot} {z : Int32} {rest : List Value} (hret : meth.sig.returnType = some .int) (hd : decode c.code pc = .ok (.ireturn, 1)) (hQ : Q (some (.int z)) T.heap locs) (hc : cells ≤ kc) (hs : slots ≤ ks) :
    OGo p e below s Q kc ks (T.setTop (mkF m pc Ls (.int z :: rest))) := OGo.retOut X hx hlk hret rfl (Or.inl ⟨rfl, Or.inl rfl, _, rfl⟩) hd hQ hc hs
theorem OGo.retJ (X : Stand p l e R s m args below meth c T locs cells slots) (hx : p.tables.exec = Jvm.exec) (hlk : meth.locks = false) {pc : Nat} {Ls : Array Slot} {z : Int64} {rest : List Value} (hret : meth.sig.returnType = some .long) (hd : decode c.code pc = .ok (.lreturn, 1)) (hQ : Q (some (.long z)) T.heap locs) (hc : cells ≤ kc) (hs : slots ≤ ks) :
    OGo p e below s Q kc ks (T.setTop (mkF m pc Ls (.long z :: rest))) := OGo.retOut X hx hlk hret rfl (Or.inr (Or.inl ⟨rfl, rfl, _, rfl⟩)) hd hQ hc hs
theorem OGo.retA (X : Stand p l e R s m args below meth c T locs cells slots) (hx : p.tables.exec = Jvm.exec) (hlk : meth.locks = false) {pc : Nat} {Ls : Array Slot} {w : Value} {t : FieldType} {rest : List Value} (hret : meth.sig.returnType = some t) (ht : t.isReference = true) (hw : w.isRef = true) (hn : narrow t w = w) (hd : decode c.code pc = .ok (.areturn, 1)) (hQ : Q (some w) T.heap locs) (hc : cells ≤ kc) (hs : slots ≤ ks) :
    OGo p e below s Q kc ks (T.setTop (mkF m pc Ls (w :: rest))) := OGo.retOut X hx hlk hret hn (Or.inr (Or.inr (Or.inr (Or.inr ⟨rfl, ht, hw⟩)))) hd hQ hc hs
theorem OGo.retZ (X : Stand p l e R s m args below meth c T locs cells slots) (hx : p.tables.exec = Jvm.exec) (hlk : meth.locks = false) {pc : Nat} {Ls : Array Slot} {z z' : Int32} {t : FieldType} {rest : List Value} (hret : meth.sig.returnType = some t) (ht : t = .boolean ∨ t = .byte ∨ t = .char ∨ t = .short) (hd : decode c.code pc = .ok (.ireturn, 1)) (hz : nar t z = z') (hQ : Q (some (.int z')) T.heap locs) (hc : cells ≤ kc) (hs : slots ≤ ks) :
    OGo p e below s Q kc ks (T.setTop (mkF m pc Ls (.int z :: rest))) := by
  subst hz
  obtain ⟨fs, hr, hrun, hended, hW, hsame⟩ := X.leave (v := some (.int (nar t z))) (fun h => by rw [hret] at h; cases h) hlk
  exact ⟨_, _, Jvm.RoadKit.retN X hx hret ht hd hr, hrun, hended, _, _, rfl, hQ, ⟨_, rfl⟩, hW, hsame.mono hc hs⟩
theorem OGo.retV (X : Stand p l e R s m args below meth c T locs cells slots) (hx : p.tables.exec = Jvm.exec) (hlk : meth.locks = false) {pc : Nat} {Ls : Array Slot} (hret : meth.sig.returnType = none) (hd : decode c.code pc = .ok (.return_, 1)) (hQ : Q none T.heap locs) (hc : cells ≤ kc) (hs : slots ≤ ks) :
    OGo p e below s Q kc ks (T.setTop (mkF m pc Ls [])) := by
  obtain ⟨fs, hr, hrun, hended, hW, hsame⟩ := X.leave (v := none) (fun _ => rfl) hlk
  exact ⟨_, _, X.returnOut hx hret hd hr, hrun, hended, _, _, rfl, hQ, ⟨_, rfl⟩, hW, hsame.mono hc hs⟩
/-- a body's contract -/
abbrev OCtr (l : Launch) (Z : State) (y : MethodName) (bytes : ByteArray) (maxL : Nat) (ret : Option FieldType) (ws : List Jvm.Cond) (rm : Room) (as' : Array Value) (h0 : Heap) (Q : Option Value → Heap → List Loc → Prop) : Prop :=
  MetFree l y (head1 (Jvm.Cond.code y bytes maxL ret :: ws) rm) (fun a U => a = as' ∧ Z.Warmed39 U.vm ∧ U.heap = h0) (fun _ _ _ _ _ => True) (fun _ U o U' => ∃ v L, o = .returned v ∧ Q v U'.heap L ∧ FrameEnd U o U' L rm.cells rm.slots)
theorem OCtr.of {y : MethodName} {bytes : ByteArray} {maxL : Nat} {ret : Option FieldType} {ws : List Jvm.Cond} {rm : Room} {as' : Array Value} (hp : plainFor y = true)
    (k : ∀ (p : Program) (e : Env) (s : State) (m : MethodId) (below : List Frame) (meth : Method) (c : Code) (s₁ : State), Stand p l e rm s m as' below meth c s₁ [] 0 0 → p.tables.exec = Jvm.exec → meth.locks = false → Z.Warmed39 s.vm → s.vm.findClass y.cls = some m.cls → meth.name = y.name → c.code = bytes → c.maxLocals = maxL → meth.sig.returnType = ret → s₁.heap = h →
      OGo p e below s Q rm.cells rm.slots (s₁.setTop (entryFrame m as' maxL))) : OCtr l Z y bytes maxL ret ws rm as' h Q := by
  refine MetFree.of_bodySF hp hisR ?_
  intro p e s m args below meth c s₁ Bd hml0 hP hK
  obtain ⟨rfl, hZ, hh⟩ := hP
  exact k p e s m below meth c s₁ (Stand.of_body Bd) Bd.exec Bd.notSynchronized hZ (findClass_of_methodNamed Bd.named) (name_of_methodNamed Bd.named Bd.method).1 Bd.bytes hml0 Bd.returns (by rw [← hh, Bd.state]; rfl)
/-- it returns w, and the heap is as it was -/
def OPure (w : Option Value) (h0 : Heap) (n0 : Nat) : Option Value → Heap → List Loc → Prop := fun v h L => v = w ∧ Fr n0 L ∧ h = h0
theorem OGo.callS (X : Stand p l e R s m args below meth c T locs cells slots) (hx : p.tables.exec = Jvm.exec) (hZ : Z.Warmed39 s.vm) {own : String} {index : Nat} {y : MethodName} {bytes : ByteArray} {maxL : Nat} {ret : Option FieldType} (hown : s.vm.findClass own = some m.cls)
    (wl : (Jvm.Cond.methodLink own index y).before a0 Z = true) (wst : (Jvm.Cond.static y).before a0 Z = true) (wi : (Jvm.Cond.initialized y.cls).before a0 Z = true) (wc : (Jvm.Cond.code y bytes maxL ret).before a0 Z = true) (hy : y.cls ≠ "java/lang/invoke/MethodHandle" ∧ y.cls ≠ "java/lang/invoke/VarHandle")
    {rm : Room} {as' : Array Value} {Q' : Option Value → Heap → List Loc → Prop} (hM : OCtr l Z y bytes maxL ret [] rm as' h Q') {W : Nat} (hf : rm.frames + 1 ≤ R.frames) (hl : W + (maxL + 11) + rm.locals ≤ R.locals)
    {g : JFrame} (hg : g.method = m) (hsize : g.locals.size = c.maxLocals) {argsL rest : List Value} (hlen : ∀ sig, parseMethodDescriptor y.desc = some sig → argsL.length = sig.parameters.length) (hstack : g.stack = argsL.reverse ++ rest) (hW : 2 * g.monitorRoom + (rest.map fun v => v.category).sum ≤ W) (hdg : decode c.code g.pc = .ok (.invokestatic index, 3))
    (ha : argsL.toArray = as') (e0 : T.heap = h) (hc : cells + rm.cells ≤ R.cells) (hs : slots + rm.slots ≤ R.slots)
    (k : ∀ (v : Option Value) (T' : State) (L' : List Loc), Stand p l e R s m args below meth c T' (locs ++ L') (cells + rm.cells) (slots + rm.slots) → Q' v T'.heap L' → OGo p e below s Q kc ks (T'.setTop { g with pc := g.pc + 3, stack := v.toList ++ rest })) : OGo p e below s Q kc ks (T.setTop g) := by
  obtain ⟨v, _, ⟨T', L', k', n'⟩, -, X', ⟨Lc, hQ, l', y', z'⟩, st⟩ := Jvm.LawKit.callS X hx hown (mvT hZ wl) (mvT hZ wst) (mvT hZ wi) (mvT hZ wc) hy (backOf (W := W) hM hZ wc wi hf hl) hg hsize hlen hstack hW hdg (fun _ _ => ⟨ha, e0, hc, hs⟩)
  dsimp only [Pt.U, Pt.locs, Pt.cells, Pt.slots] at X' l' y' z' st hQ
  subst l' y' z'
  exact OGo.step st (k v T' Lc X' hQ)
theorem OGo.callV (X : Stand p l e R s m args below meth c T locs cells slots) (hx : p.tables.exec = Jvm.exec) (hZ : Z.Warmed39 s.vm) {own C : String} {index : Nat} {y z : MethodName} {bytes : ByteArray} {maxL : Nat} {ret : Option FieldType} (hown : s.vm.findClass own = some m.cls)
    (wl : (Jvm.Cond.methodLink own index y).before a0 Z = true) (wd : (Jvm.Cond.declares y).before a0 Z = true) (hnf : NotFace s y) (wsel : (Jvm.Cond.selects C y z).before a0 Z = true) (win : (Jvm.Cond.instanceMethod z).before a0 Z = true) (wi : (Jvm.Cond.initialized z.cls).before a0 Z = true) (wc : (Jvm.Cond.code z bytes maxL ret).before a0 Z = true) (hy : y.cls ≠ "java/lang/invoke/MethodHandle" ∧ y.cls ≠ "java/lang/invoke/VarHandle")
    {rm : Room} {as' : Array Value} {Q' : Option Value → Heap → List Loc → Prop} (hM : OCtr l Z z bytes maxL ret [] rm as' h Q') {W : Nat} (hf : rm.frames + 1 ≤ R.frames) (hl : W + (maxL + 11) + rm.locals ≤ R.locals) {b : Addr} (E : Exa Z h b C)
    {g : JFrame} (hg : g.method = m) (hsize : g.locals.size = c.maxLocals) {argsL rest : List Value} (hlen : ∀ sig, parseMethodDescriptor y.desc = some sig → argsL.length = sig.parameters.length) (hstack : g.stack = argsL.reverse ++ .ref b :: rest) (hW : 2 * g.monitorRoom + (rest.map fun v => v.category).sum ≤ W) (hdg : decode c.code g.pc = .ok (.invokevirtual index, 3))
    (ha : (.ref b :: argsL).toArray = as') (e0 : T.heap = h) (hc : cells + rm.cells ≤ R.cells) (hs : slots + rm.slots ≤ R.slots)
    (k : ∀ (v : Option Value) (T' : State) (L' : List Loc), Stand p l e R s m args below meth c T' (locs ++ L') (cells + rm.cells) (slots + rm.slots) → Q' v T'.heap L' → OGo p e below s Q kc ks (T'.setTop { g with pc := g.pc + 3, stack := v.toList ++ rest })) : OGo p e below s Q kc ks (T.setTop g) := by
  obtain ⟨cq, kq, q1, q2, q3⟩ := isOf hZ e0 E
  obtain ⟨v, _, ⟨T', L', k', n'⟩, -, X', ⟨Lc, hQ, l', y', z'⟩, st⟩ := X.virtualBack hx hown (mvT hZ wl) (mvT hZ wd) hnf (mvT hZ wsel) (mvT hZ win) hy (backOf (W := W) hM hZ wc wi hf hl) q1 q3 hg hsize (Steps.refl _) hlen hstack hW hdg (fun _ _ => ⟨ha, e0, hc, hs⟩)
  dsimp only [Pt.U, Pt.locs, Pt.cells, Pt.slots] at X' l' y' z' st hQ
  subst l' y' z'
  exact OGo.step (fun t q => st.trans q) (k v T' Lc X' hQ)
theorem OGo.callC (X : Stand p l e R s m args below meth c T locs cells slots) (hx : p.tables.exec = Jvm.exec) (hZ : Z.Warmed39 s.vm) {own : String} {index : Nat} {y : MethodName} {bytes : ByteArray} {maxL : Nat} (hy1 : y.name = "<init>") (hown : s.vm.findClass own = some m.cls)
    (wl : (Jvm.Cond.methodLink own index y).before a0 Z = true) (win : (Jvm.Cond.instanceMethod y).before a0 Z = true) (wi : (Jvm.Cond.initialized y.cls).before a0 Z = true) (wc : (Jvm.Cond.code y bytes maxL none).before a0 Z = true) (hy : y.cls ≠ "java/lang/invoke/MethodHandle" ∧ y.cls ≠ "java/lang/invoke/VarHandle")
    {rm : Room} {as' : Array Value} {Q' : Option Value → Heap → List Loc → Prop} (hM : OCtr l Z y bytes maxL none [] rm as' h Q') {W : Nat} (hf : rm.frames + 1 ≤ R.frames) (hl : W + (maxL + 11) + rm.locals ≤ R.locals) {b : Addr}
    {g : JFrame} (hg : g.method = m) (hsize : g.locals.size = c.maxLocals) {argsL rest : List Value} (hlen : ∀ sig, parseMethodDescriptor y.desc = some sig → argsL.length = sig.parameters.length) (hstack : g.stack = argsL.reverse ++ .ref b :: rest) (hW : 2 * g.monitorRoom + (rest.map fun v => v.category).sum ≤ W) (hdg : decode c.code g.pc = .ok (.invokespecial index, 3))
    (ha : (.ref b :: argsL).toArray = as') (e0 : T.heap = h) (hc : cells + rm.cells ≤ R.cells) (hs : slots + rm.slots ≤ R.slots)
    (k : ∀ (v : Option Value) (T' : State) (L' : List Loc), Stand p l e R s m args below meth c T' (locs ++ L') (cells + rm.cells) (slots + rm.slots) → Q' v T'.heap L' → OGo p e below s Q kc ks (T'.setTop { g with pc := g.pc + 3, stack := v.toList ++ rest })) : OGo p e below s Q kc ks (T.setTop g) := by
  obtain ⟨v, _, ⟨T', L', k', n'⟩, -, X', ⟨Lc, hQ, l', y', z'⟩, st⟩ := X.specialBack hx hy1 hown (mvT hZ wl) (mvT hZ win) (mvT hZ wc) hy (backOf (W := W) hM hZ wc wi hf hl) hg hsize (Steps.refl _) hlen hstack hW hdg (fun _ _ => ⟨ha, e0, hc, hs⟩)
  dsimp only [Pt.U, Pt.locs, Pt.cells, Pt.slots] at X' l' y' z' st hQ
  subst l' y' z'
  exact OGo.step (fun t q => st.trans q) (k v T' Lc X' hQ)
theorem own_wd (hw : ∀ d ∈ tables_1, d.before a0 Z = true) (i : Nat) {d : Jvm.Cond} (q : tables_1[i]? = some d) : d.before a0 Z = true := hw _ (List.mem_of_getElem? q)
theorem own_narc (x : Int32) : nar .char (x.toUInt32.toUInt16.toUInt32.toInt32) = x.toUInt32.toUInt16.toUInt32.toInt32 := by
  show x.toUInt32.toUInt16.toUInt32.toInt32.toUInt32.toUInt16.toUInt32.toInt32 = _
  simp only [UInt32.toUInt32_toInt32, UInt16.toUInt16_toUInt32]
theorem own_obj {a : Addr} {C : String} (F : Exa Z h a C) : ∃ cell : Cell, h[a]? = some cell ∧ cell.vm.isStatics = false := by
  obtain ⟨cell, _, h1, -, -, h4, -⟩ := F; exact ⟨cell, h1, h4⟩
theorem own_stakeep {h' : Heap} {ws : List Addr} {C n d : String} {v : Value} (F : Sta Z h C n d v) (K : Keep h h' ws) (q : ∀ x ∈ ws, ∃ cell : Cell, h[x]? = some cell ∧ cell.vm.isStatics = false) : Sta Z h' C n d v := by
  obtain ⟨cf, i, k, f, st, cell, h1, h2, h3, h4, h5, h6, h7⟩ := F
  refine ⟨cf, i, k, f, st, cell, h1, h2, h3, h4, K.2.1 _ _ h5 fun hm => ?_, h6, h7⟩
  obtain ⟨c', g1, g2⟩ := q _ hm
  cases g1.symm.trans h5
  rw [h6] at g2; cases g2
end OwnKit
theorem own_fld {args : Array Value} {Z : State} {t : Term} {a : Addr} {C n d : String} {k : Int32} (ev : t.eval args Z none [] Z = some (.ref a)) (q : (Jvm.Cond.eq (Term.field t C n d) (Term.int k)).value args Z none Z [] = some true) : Fld Z Z.heap a C n d (.int k) := by
  refine Fld.start ?_
  have e1 : (Term.field t C n d).eval args Z none [] Z = Z.fieldOf? a C n d := by simp [Term.eval, ev]
  have e2 : (Term.int k).eval args Z none [] Z = some (.int k) := rfl
  simp only [Cond.value, e1, e2] at q
  cases hf : Z.fieldOf? a C n d with
  | none => simp [hf] at q
  | some v => cases v <;> simp [hf] at q <;> simp [q]
/-! body 1: com/example/oddhands/oddhands/sj/Move.namesCards:()Z -/
theorem d1_0 : decode prog_12_method_7_code 0 = .ok (.aload_n 0, 1) := by decide +kernel
theorem d1_1 : decode prog_12_method_7_code 1 = .ok (.getstatic 7, 3) := by decide +kernel
theorem d1_4 : decode prog_12_method_7_code 4 = .ok (.if_acmp .eq 10, 3) := by decide +kernel
theorem d1_7 : decode prog_12_method_7_code 7 = .ok (.aload_n 0, 1) := by decide +kernel
theorem d1_8 : decode prog_12_method_7_code 8 = .ok (.getstatic 10, 3) := by decide +kernel
theorem d1_11 : decode prog_12_method_7_code 11 = .ok (.if_acmp .ne 7, 3) := by decide +kernel
theorem d1_14 : decode prog_12_method_7_code 14 = .ok (.iconst 1, 1) := by decide +kernel
theorem d1_15 : decode prog_12_method_7_code 15 = .ok (.goto 4, 3) := by decide +kernel
theorem d1_18 : decode prog_12_method_7_code 18 = .ok (.iconst 0, 1) := by decide +kernel
theorem d1_19 : decode prog_12_method_7_code 19 = .ok (.ireturn, 1) := by decide +kernel
theorem pn_1 : plainName "com/example/oddhands/oddhands/sj/Move" = true := by first | (simp [plainName, overriddenIn]; done) | decide +kernel
theorem ef_1 (m : MethodId) (x0 : Addr) : entryFrame m #[(.ref x0)] 1 = mkF m 0 #[.val (.ref x0)] [] := by first | (simp [entryFrame, mkF, argsToLocals, Value.category]; done) | rfl
def f1 (a0 : Addr) (w_TAKE : Addr) (w_SWITCH : Addr) : Int32 :=
  if a0 = w_TAKE then (1 : Int32)
  else if a0 = w_SWITCH then (1 : Int32)
    else (0 : Int32)
theorem fb1 (a0 : Addr) (w_TAKE : Addr) (w_SWITCH : Addr) : nar .boolean (f1 a0 w_TAKE w_SWITCH) = (f1 a0 w_TAKE w_SWITCH) := by
  unfold f1
  repeat' split
  all_goals first | rfl | decide
set_option maxRecDepth 65536 in
set_option maxHeartbeats 40000000 in
theorem rm1 (l : Launch) (Z : State) (az : Array Value) (hw : ∀ d ∈ tables_1, d.before az Z = true) (ws : List Jvm.Cond) (a0 : Addr) (w_TAKE : Addr) (w_SWITCH : Addr) (h0 : Heap) (n0 : Nat) (Z0 : n0 ≤ h0.size) (S_Move_TAKE : Sta Z h0 "com/example/oddhands/oddhands/sj/Move" "TAKE" "Lcom/example/oddhands/oddhands/sj/Move;" (.ref w_TAKE)) (S_Move_SWITCH : Sta Z h0 "com/example/oddhands/oddhands/sj/Move" "SWITCH" "Lcom/example/oddhands/oddhands/sj/Move;" (.ref w_SWITCH)) :
    OCtr l Z (⟨"com/example/oddhands/oddhands/sj/Move", "namesCards", "()Z"⟩ : MethodName) prog_12_method_7_code 1 (some .boolean) ws ({ frames := 0, cells := 0, slots := 0, locals := 0 } : Room) #[(.ref a0)] h0 (OPure (some (.int (f1 a0 w_TAKE w_SWITCH))) h0 n0) := by
  refine OCtr.of (plainFor_of_name pn_1) ?_
  intro p e s m below meth c s₁ X0 hx hlk hZ hown0 hnm hby hml0 hret e0
  have hown : s.vm.findClass "com/example/oddhands/oddhands/sj/Move" = some m.cls := hown0
  have hml : c.maxLocals = 1 := hml0
  have N0 := Fr.nil n0
  refine OGo.step (fun t k => castTop (ef_1 m a0) k) ?_
  refine OGo.step (F' := s₁.setTop (mkF m 1 #[.val (.ref a0)] [(.ref a0)])) (fun t kt => ?_) ?_
  · show Steps p.tables e below (s₁.setTop (mkF m 0 #[.val (.ref a0)] [])) t
    refine XS.aloadN X0.here hx rfl (hb hby d1_0) rfl rfl ?_
    exact kt
  obtain ⟨T1, X1, e1, st1⟩ := getS2 X0 hx hZ hown (host := "") (Or.inl (own_wd hw 9 rfl)) Via.refl e0 S_Move_TAKE (g := (mkF m 1 #[.val (.ref a0)] [(.ref a0)])) rfl (hb hby d1_1)
  refine OGo.step st1 ?_
  show OGo _ _ _ _ _ _ _ (T1.setTop (mkF m 4 #[.val (.ref a0)] [(.ref w_TAKE), (.ref a0)]))
  by_cases hc4 : a0 = w_TAKE
  · refine OGo.step (F' := T1.setTop (mkF m 14 #[.val (.ref a0)] [])) (fun t kt => ?_) ?_
    · show Steps p.tables e below (T1.setTop (mkF m 4 #[.val (.ref a0)] [(.ref w_TAKE), (.ref a0)])) t
      refine Jvm.RoadKit.acmp (g := (mkF m 4 #[.val (.ref a0)] [(.ref w_TAKE), (.ref a0)])) X1 hx rfl rfl rfl (pc0 := 4) (pc' := 14) (same := true) rfl (hb hby d1_4) rfl (decide_eq_true (congrArg Value.ref hc4)) (by decide) (by decide) ?_
      exact kt
    refine OGo.step (F' := T1.setTop (mkF m 19 #[.val (.ref a0)] [(.int (1 : Int32))])) (fun t kt => ?_) ?_
    · show Steps p.tables e below (T1.setTop (mkF m 14 #[.val (.ref a0)] [])) t
      refine XS.iconst X1.here hx rfl (hb hby d1_14) ?_
      show Steps p.tables e below (T1.setTop (mkF m 15 #[.val (.ref a0)] [(.int (1 : Int32))])) t
      refine XS.goto X1.here hx rfl (pc0 := 15) (pc' := 19) rfl (hb hby d1_15) (by decide) (by decide) ?_
      exact kt
    refine OGo.retZ X1 hx hlk (t := .boolean) (z' := (1 : Int32)) hret (by simp) (hb hby d1_19) rfl ?_ (by decide) (by decide)
    exact ⟨(by rw [f1, if_pos hc4]), N0, e1⟩
  · refine OGo.step (F' := T1.setTop (mkF m 7 #[.val (.ref a0)] [])) (fun t kt => ?_) ?_
    · show Steps p.tables e below (T1.setTop (mkF m 4 #[.val (.ref a0)] [(.ref w_TAKE), (.ref a0)])) t
      refine Jvm.RoadKit.acmp (g := (mkF m 4 #[.val (.ref a0)] [(.ref w_TAKE), (.ref a0)])) X1 hx rfl rfl rfl (pc0 := 4) (pc' := 7) (same := false) rfl (hb hby d1_4) rfl (decide_eq_false fun q => hc4 (Value.ref.inj q)) (by decide) (by decide) ?_
      exact kt
    refine OGo.step (F' := T1.setTop (mkF m 8 #[.val (.ref a0)] [(.ref a0)])) (fun t kt => ?_) ?_
    · show Steps p.tables e below (T1.setTop (mkF m 7 #[.val (.ref a0)] [])) t
      refine XS.aloadN X1.here hx rfl (hb hby d1_7) rfl rfl ?_
      exact kt
    obtain ⟨T2, X2, e2, st2⟩ := getS2 X1 hx hZ hown (host := "") (Or.inl (own_wd hw 11 rfl)) Via.refl e1 S_Move_SWITCH (g := (mkF m 8 #[.val (.ref a0)] [(.ref a0)])) rfl (hb hby d1_8)
    refine OGo.step st2 ?_
    show OGo _ _ _ _ _ _ _ (T2.setTop (mkF m 11 #[.val (.ref a0)] [(.ref w_SWITCH), (.ref a0)]))
    by_cases hc11 : a0 = w_SWITCH
    · refine OGo.step (F' := T2.setTop (mkF m 14 #[.val (.ref a0)] [])) (fun t kt => ?_) ?_
      · show Steps p.tables e below (T2.setTop (mkF m 11 #[.val (.ref a0)] [(.ref w_SWITCH), (.ref a0)])) t
        refine Jvm.RoadKit.acmp (g := (mkF m 11 #[.val (.ref a0)] [(.ref w_SWITCH), (.ref a0)])) X2 hx rfl rfl rfl (pc0 := 11) (pc' := 14) (same := true) rfl (hb hby d1_11) rfl (decide_eq_true (congrArg Value.ref hc11)) (by decide) (by decide) ?_
        exact kt
      refine OGo.step (F' := T2.setTop (mkF m 19 #[.val (.ref a0)] [(.int (1 : Int32))])) (fun t kt => ?_) ?_
      · show Steps p.tables e below (T2.setTop (mkF m 14 #[.val (.ref a0)] [])) t
        refine XS.iconst X2.here hx rfl (hb hby d1_14) ?_
        show Steps p.tables e below (T2.setTop (mkF m 15 #[.val (.ref a0)] [(.int (1 : Int32))])) t
        refine XS.goto X2.here hx rfl (pc0 := 15) (pc' := 19) rfl (hb hby d1_15) (by decide) (by decide) ?_
        exact kt
      refine OGo.retZ X2 hx hlk (t := .boolean) (z' := (1 : Int32)) hret (by simp) (hb hby d1_19) rfl ?_ (by decide) (by decide)
      exact ⟨(by rw [f1, if_neg hc4, if_pos hc11]), N0, e2⟩
    · refine OGo.step (F' := T2.setTop (mkF m 18 #[.val (.ref a0)] [])) (fun t kt => ?_) ?_
      · show Steps p.tables e below (T2.setTop (mkF m 11 #[.val (.ref a0)] [(.ref w_SWITCH), (.ref a0)])) t
        refine Jvm.RoadKit.acmp (g := (mkF m 11 #[.val (.ref a0)] [(.ref w_SWITCH), (.ref a0)])) X2 hx rfl rfl rfl (pc0 := 11) (pc' := 18) (same := false) rfl (hb hby d1_11) rfl (decide_eq_false fun q => hc11 (Value.ref.inj q)) (by decide) (by decide) ?_
        exact kt
      refine OGo.step (F' := T2.setTop (mkF m 19 #[.val (.ref a0)] [(.int (0 : Int32))])) (fun t kt => ?_) ?_
      · show Steps p.tables e below (T2.setTop (mkF m 18 #[.val (.ref a0)] [])) t
        refine XS.iconst X2.here hx rfl (hb hby d1_18) ?_
        exact kt
      refine OGo.retZ X2 hx hlk (t := .boolean) (z' := (0 : Int32)) hret (by simp) (hb hby d1_19) rfl ?_ (by decide) (by decide)
      exact ⟨(by rw [f1, if_neg hc4, if_neg hc11]), N0, e2⟩
/-! body 0: com/example/oddhands/oddhands/sj/MoveNamesCardsPinLaw.law:(I)Z -/
theorem pn_0 : plainName "com/example/oddhands/oddhands/sj/MoveNamesCardsPinLaw" = true := by first | (simp [plainName, overriddenIn]; done) | decide +kernel
theorem pd_0_0 : parseMethodDescriptor "()Z" = some ⟨[], some .boolean⟩ := by decide +kernel
theorem ef_0 (m : MethodId) (x0 : Int32) : entryFrame m #[(.int x0)] maxLocals = mkF m 0 #[.val (.int x0), .unset, .unset, .unset] [] := by first | (simp [entryFrame, mkF, argsToLocals, Value.category, maxLocals]; done) | rfl
def f0 (p0 : Int32) (w_INSURE : Addr) (w_TAKE : Addr) (w_SWITCH : Addr) (w_END : Addr) (w_GO : Addr) (w_STOP : Addr) (w_REVIVE : Addr) : Int32 :=
  if ((p0 &&& (2147483647 : Int32)) % (7 : Int32)) = (0 : Int32) then (if (f1 w_INSURE w_TAKE w_SWITCH) = (0 : Int32) then (1 : Int32)
    else (0 : Int32))
  else if ((p0 &&& (2147483647 : Int32)) % (7 : Int32)) = (1 : Int32) then (if (f1 w_TAKE w_TAKE w_SWITCH) = (1 : Int32) then (1 : Int32)
      else (0 : Int32))
    else if ((p0 &&& (2147483647 : Int32)) % (7 : Int32)) = (2 : Int32) then (if (f1 w_SWITCH w_TAKE w_SWITCH) = (1 : Int32) then (1 : Int32)
        else (0 : Int32))
      else if ((p0 &&& (2147483647 : Int32)) % (7 : Int32)) = (3 : Int32) then (if (f1 w_END w_TAKE w_SWITCH) = (0 : Int32) then (1 : Int32)
          else (0 : Int32))
        else if ((p0 &&& (2147483647 : Int32)) % (7 : Int32)) = (4 : Int32) then (if (f1 w_GO w_TAKE w_SWITCH) = (0 : Int32) then (1 : Int32)
            else (0 : Int32))
          else if ((p0 &&& (2147483647 : Int32)) % (7 : Int32)) = (5 : Int32) then (if (f1 w_STOP w_TAKE w_SWITCH) = (0 : Int32) then (1 : Int32)
              else (0 : Int32))
            else if (f1 w_REVIVE w_TAKE w_SWITCH) = (0 : Int32) then (1 : Int32)
              else (0 : Int32)
theorem fb0 (p0 : Int32) (w_INSURE : Addr) (w_TAKE : Addr) (w_SWITCH : Addr) (w_END : Addr) (w_GO : Addr) (w_STOP : Addr) (w_REVIVE : Addr) : nar .boolean (f0 p0 w_INSURE w_TAKE w_SWITCH w_END w_GO w_STOP w_REVIVE) = (f0 p0 w_INSURE w_TAKE w_SWITCH w_END w_GO w_STOP w_REVIVE) := by
  unfold f0
  repeat' split
  all_goals first | rfl | decide
set_option maxRecDepth 65536 in
set_option maxHeartbeats 40000000 in
theorem rm0 (l : Launch) (Z : State) (az : Array Value) (hw : ∀ d ∈ tables_1, d.before az Z = true) (ws : List Jvm.Cond) (p0 : Int32) (w_INSURE : Addr) (w_TAKE : Addr) (w_SWITCH : Addr) (w_END : Addr) (w_GO : Addr) (w_STOP : Addr) (w_REVIVE : Addr) (h0 : Heap) (n0 : Nat) (Z0 : n0 ≤ h0.size) (S_Move_INSURE : Sta Z h0 "com/example/oddhands/oddhands/sj/Move" "INSURE" "Lcom/example/oddhands/oddhands/sj/Move;" (.ref w_INSURE)) (S_Move_TAKE : Sta Z h0 "com/example/oddhands/oddhands/sj/Move" "TAKE" "Lcom/example/oddhands/oddhands/sj/Move;" (.ref w_TAKE)) (S_Move_SWITCH : Sta Z h0 "com/example/oddhands/oddhands/sj/Move" "SWITCH" "Lcom/example/oddhands/oddhands/sj/Move;" (.ref w_SWITCH)) (E_w_INSURE : Exa Z h0 w_INSURE "com/example/oddhands/oddhands/sj/Move") (E_w_TAKE : Exa Z h0 w_TAKE "com/example/oddhands/oddhands/sj/Move") (E_w_SWITCH : Exa Z h0 w_SWITCH "com/example/oddhands/oddhands/sj/Move") (S_Move_END : Sta Z h0 "com/example/oddhands/oddhands/sj/Move" "END" "Lcom/example/oddhands/oddhands/sj/Move;" (.ref w_END)) (E_w_END : Exa Z h0 w_END "com/example/oddhands/oddhands/sj/Move") (S_Move_GO : Sta Z h0 "com/example/oddhands/oddhands/sj/Move" "GO" "Lcom/example/oddhands/oddhands/sj/Move;" (.ref w_GO)) (E_w_GO : Exa Z h0 w_GO "com/example/oddhands/oddhands/sj/Move") (S_Move_STOP : Sta Z h0 "com/example/oddhands/oddhands/sj/Move" "STOP" "Lcom/example/oddhands/oddhands/sj/Move;" (.ref w_STOP)) (E_w_STOP : Exa Z h0 w_STOP "com/example/oddhands/oddhands/sj/Move") (S_Move_REVIVE : Sta Z h0 "com/example/oddhands/oddhands/sj/Move" "REVIVE" "Lcom/example/oddhands/oddhands/sj/Move;" (.ref w_REVIVE)) (E_w_REVIVE : Exa Z h0 w_REVIVE "com/example/oddhands/oddhands/sj/Move") :
    OCtr l Z x code maxLocals ret ws room_1 #[(.int p0)] h0 (OPure (some (.int (f0 p0 w_INSURE w_TAKE w_SWITCH w_END w_GO w_STOP w_REVIVE))) h0 n0) := by
  refine OCtr.of (plainFor_of_name pn_0) ?_
  intro p e s m below meth c s₁ X0 hx hlk hZ hown0 hnm hby hml0 hret e0
  have hown : s.vm.findClass "com/example/oddhands/oddhands/sj/MoveNamesCardsPinLaw" = some m.cls := hown0
  have hml : c.maxLocals = 4 := hml0
  have N0 := Fr.nil n0
  refine OGo.step (fun t k => castTop (ef_0 m p0) k) ?_
  refine OGo.step (F' := s₁.setTop (mkF m 9 #[.val (.int p0), .val (.int ((p0 &&& (2147483647 : Int32)) % (7 : Int32))), .unset, .unset] [(.int ((p0 &&& (2147483647 : Int32)) % (7 : Int32)))])) (fun t kt => ?_) ?_
  · show Steps p.tables e below (s₁.setTop (mkF m 0 #[.val (.int p0), .unset, .unset, .unset] [])) t
    refine XS.iloadN X0.here hx rfl (hb hby at_0) rfl ?_
    show Steps p.tables e below (s₁.setTop (mkF m 1 #[.val (.int p0), .unset, .unset, .unset] [(.int p0)])) t
    refine X0.ldcInt hx hown (mvT hZ (own_wd hw 0 rfl)) (g := (mkF m 1 #[.val (.int p0), .unset, .unset, .unset] [(.int p0)])) rfl (hb hby at_1) _ ?_
    show Steps p.tables e below (s₁.setTop (mkF m 3 #[.val (.int p0), .unset, .unset, .unset] [(.int (2147483647 : Int32)), (.int p0)])) t
    refine XS.iand X0.here hx rfl (hb hby at_3) rfl ?_
    show Steps p.tables e below (s₁.setTop (mkF m 4 #[.val (.int p0), .unset, .unset, .unset] [(.int (p0 &&& (2147483647 : Int32)))])) t
    refine XS.bipush X0.here hx rfl (hb hby at_4) ?_
    show Steps p.tables e below (s₁.setTop (mkF m 6 #[.val (.int p0), .unset, .unset, .unset] [(.int (7 : Int32)), (.int (p0 &&& (2147483647 : Int32)))])) t
    refine Jvm.RoadKit.iremM (g := (mkF m 6 #[.val (.int p0), .unset, .unset, .unset] [(.int (7 : Int32)), (.int (p0 &&& (2147483647 : Int32)))])) X0 hx rfl (hb hby at_6) rfl (by decide) ?_
    show Steps p.tables e below (s₁.setTop (mkF m 7 #[.val (.int p0), .unset, .unset, .unset] [(.int ((p0 &&& (2147483647 : Int32)) % (7 : Int32)))])) t
    refine XS.istoreN X0.here hx rfl (hb hby at_7) rfl (l' := #[.val (.int p0), .val (.int ((p0 &&& (2147483647 : Int32)) % (7 : Int32))), .unset, .unset]) rfl ?_
    show Steps p.tables e below (s₁.setTop (mkF m 8 #[.val (.int p0), .val (.int ((p0 &&& (2147483647 : Int32)) % (7 : Int32))), .unset, .unset] [])) t
    refine XS.iloadN X0.here hx rfl (hb hby at_8) rfl ?_
    exact kt
  by_cases hc9 : ((p0 &&& (2147483647 : Int32)) % (7 : Int32)) = (0 : Int32)
  · refine OGo.step (F' := s₁.setTop (mkF m 12 #[.val (.int p0), .val (.int ((p0 &&& (2147483647 : Int32)) % (7 : Int32))), .unset, .unset] [])) (fun t kt => ?_) ?_
    · show Steps p.tables e below (s₁.setTop (mkF m 9 #[.val (.int p0), .val (.int ((p0 &&& (2147483647 : Int32)) % (7 : Int32))), .unset, .unset] [(.int ((p0 &&& (2147483647 : Int32)) % (7 : Int32)))])) t
      refine XS.ifNo X0.here hx rfl (hb hby at_9) rfl ((if0 _ _).trans (teq hc9).2) ?_
      exact kt
    obtain ⟨T1, X1, e1, st1⟩ := getS2 X0 hx hZ hown (host := "") (Or.inl (own_wd hw 1 rfl)) Via.refl e0 S_Move_INSURE (g := (mkF m 12 #[.val (.int p0), .val (.int ((p0 &&& (2147483647 : Int32)) % (7 : Int32))), .unset, .unset] [])) rfl (hb hby at_12)
    refine OGo.step st1 ?_
    show OGo _ _ _ _ _ _ _ (T1.setTop (mkF m 15 #[.val (.int p0), .val (.int ((p0 &&& (2147483647 : Int32)) % (7 : Int32))), .unset, .unset] [(.ref w_INSURE)]))
    refine OGo.step (F' := T1.setTop (mkF m 98 #[.val (.int p0), .val (.int ((p0 &&& (2147483647 : Int32)) % (7 : Int32))), .val (.ref w_INSURE), .val (.int (0 : Int32))] [(.ref w_INSURE)])) (fun t kt => ?_) ?_
    · show Steps p.tables e below (T1.setTop (mkF m 15 #[.val (.int p0), .val (.int ((p0 &&& (2147483647 : Int32)) % (7 : Int32))), .unset, .unset] [(.ref w_INSURE)])) t
      refine XS.astoreN X1.here hx rfl (hb hby at_15) rfl rfl (l' := #[.val (.int p0), .val (.int ((p0 &&& (2147483647 : Int32)) % (7 : Int32))), .val (.ref w_INSURE), .unset]) rfl ?_
      show Steps p.tables e below (T1.setTop (mkF m 16 #[.val (.int p0), .val (.int ((p0 &&& (2147483647 : Int32)) % (7 : Int32))), .val (.ref w_INSURE), .unset] [])) t
      refine XS.iconst X1.here hx rfl (hb hby at_16) ?_
      show Steps p.tables e below (T1.setTop (mkF m 17 #[.val (.int p0), .val (.int ((p0 &&& (2147483647 : Int32)) % (7 : Int32))), .val (.ref w_INSURE), .unset] [(.int (0 : Int32))])) t
      refine XS.istoreN X1.here hx rfl (hb hby at_17) rfl (l' := #[.val (.int p0), .val (.int ((p0 &&& (2147483647 : Int32)) % (7 : Int32))), .val (.ref w_INSURE), .val (.int (0 : Int32))]) rfl ?_
      show Steps p.tables e below (T1.setTop (mkF m 18 #[.val (.int p0), .val (.int ((p0 &&& (2147483647 : Int32)) % (7 : Int32))), .val (.ref w_INSURE), .val (.int (0 : Int32))] [])) t
      refine XS.goto X1.here hx rfl (pc0 := 18) (pc' := 97) rfl (hb hby at_18) (by decide) (by decide) ?_
      show Steps p.tables e below (T1.setTop (mkF m 97 #[.val (.int p0), .val (.int ((p0 &&& (2147483647 : Int32)) % (7 : Int32))), .val (.ref w_INSURE), .val (.int (0 : Int32))] [])) t
      refine XS.aloadN X1.here hx rfl (hb hby at_97) rfl rfl ?_
      exact kt
    refine OGo.callV X1 hx hZ (y := (⟨"com/example/oddhands/oddhands/sj/Move", "namesCards", "()Z"⟩ : MethodName)) (z := (⟨"com/example/oddhands/oddhands/sj/Move", "namesCards", "()Z"⟩ : MethodName)) hown (own_wd hw 4 rfl) (own_wd hw 5 rfl) (notFace_of_selects (args := #[]) (mvT hZ (own_wd hw 7 rfl))) (own_wd hw 7 rfl) (own_wd hw 6 rfl) (own_wd hw 2 rfl) (own_wd hw 8 rfl) (by decide) (rm1 l Z az hw [] w_INSURE w_TAKE w_SWITCH h0 n0 Z0 S_Move_TAKE S_Move_SWITCH) (W := 0) (by decide) (by decide) E_w_INSURE (g := (mkF m 98 #[.val (.int p0), .val (.int ((p0 &&& (2147483647 : Int32)) % (7 : Int32))), .val (.ref w_INSURE), .val (.int (0 : Int32))] [(.ref w_INSURE)])) rfl (by rw [hml]; rfl) (argsL := []) (rest := []) (lenOf pd_0_0 rfl) rfl (by show 2 * 0 + _ ≤ _; exact Nat.le_of_eq rfl) (hb hby at_98) rfl e1 (by decide) (by decide) ?_
    rintro _ T2 L2 X2 ⟨rfl, Nq2, e2⟩
    have N2 := Fr.app N0 Nq2
    show OGo _ _ _ _ _ _ _ (T2.setTop (mkF m 101 #[.val (.int p0), .val (.int ((p0 &&& (2147483647 : Int32)) % (7 : Int32))), .val (.ref w_INSURE), .val (.int (0 : Int32))] [(.int (f1 w_INSURE w_TAKE w_SWITCH))]))
    refine OGo.step (F' := T2.setTop (mkF m 102 #[.val (.int p0), .val (.int ((p0 &&& (2147483647 : Int32)) % (7 : Int32))), .val (.ref w_INSURE), .val (.int (0 : Int32))] [(.int (0 : Int32)), (.int (f1 w_INSURE w_TAKE w_SWITCH))])) (fun t kt => ?_) ?_
    · show Steps p.tables e below (T2.setTop (mkF m 101 #[.val (.int p0), .val (.int ((p0 &&& (2147483647 : Int32)) % (7 : Int32))), .val (.ref w_INSURE), .val (.int (0 : Int32))] [(.int (f1 w_INSURE w_TAKE w_SWITCH))])) t
      refine XS.iloadN X2.here hx rfl (hb hby at_101) rfl ?_
      exact kt
    by_cases hc102 : (f1 w_INSURE w_TAKE w_SWITCH) = (0 : Int32)
    · refine OGo.step (F' := T2.setTop (mkF m 105 #[.val (.int p0), .val (.int ((p0 &&& (2147483647 : Int32)) % (7 : Int32))), .val (.ref w_INSURE), .val (.int (0 : Int32))] [])) (fun t kt => ?_) ?_
      · show Steps p.tables e below (T2.setTop (mkF m 102 #[.val (.int p0), .val (.int ((p0 &&& (2147483647 : Int32)) % (7 : Int32))), .val (.ref w_INSURE), .val (.int (0 : Int32))] [(.int (0 : Int32)), (.int (f1 w_INSURE w_TAKE w_SWITCH))])) t
        refine XS.icmpNo X2.here hx rfl (hb hby at_102) rfl (teq hc102).2 ?_
        exact kt
      refine OGo.step (F' := T2.setTop (mkF m 110 #[.val (.int p0), .val (.int ((p0 &&& (2147483647 : Int32)) % (7 : Int32))), .val (.ref w_INSURE), .val (.int (0 : Int32))] [(.int (1 : Int32))])) (fun t kt => ?_) ?_
      · show Steps p.tables e below (T2.setTop (mkF m 105 #[.val (.int p0), .val (.int ((p0 &&& (2147483647 : Int32)) % (7 : Int32))), .val (.ref w_INSURE), .val (.int (0 : Int32))] [])) t
        refine XS.iconst X2.here hx rfl (hb hby at_105) ?_
        show Steps p.tables e below (T2.setTop (mkF m 106 #[.val (.int p0), .val (.int ((p0 &&& (2147483647 : Int32)) % (7 : Int32))), .val (.ref w_INSURE), .val (.int (0 : Int32))] [(.int (1 : Int32))])) t
        refine XS.goto X2.here hx rfl (pc0 := 106) (pc' := 110) rfl (hb hby at_106) (by decide) (by decide) ?_
        exact kt
      refine OGo.retZ X2 hx hlk (t := .boolean) (z' := (1 : Int32)) hret (by simp) (hb hby at_110) rfl ?_ (by decide) (by decide)
      exact ⟨(by rw [f0, if_pos hc9, if_pos hc102]), N2, e2⟩
    · refine OGo.step (F' := T2.setTop (mkF m 109 #[.val (.int p0), .val (.int ((p0 &&& (2147483647 : Int32)) % (7 : Int32))), .val (.ref w_INSURE), .val (.int (0 : Int32))] [])) (fun t kt => ?_) ?_
      · show Steps p.tables e below (T2.setTop (mkF m 102 #[.val (.int p0), .val (.int ((p0 &&& (2147483647 : Int32)) % (7 : Int32))), .val (.ref w_INSURE), .val (.int (0 : Int32))] [(.int (0 : Int32)), (.int (f1 w_INSURE w_TAKE w_SWITCH))])) t
        refine XS.icmpYes X2.here hx rfl (pc0 := 102) (pc' := 109) rfl (hb hby at_102) rfl (feq hc102).2 (by decide) (by decide) ?_
        exact kt
      refine OGo.step (F' := T2.setTop (mkF m 110 #[.val (.int p0), .val (.int ((p0 &&& (2147483647 : Int32)) % (7 : Int32))), .val (.ref w_INSURE), .val (.int (0 : Int32))] [(.int (0 : Int32))])) (fun t kt => ?_) ?_
      · show Steps p.tables e below (T2.setTop (mkF m 109 #[.val (.int p0), .val (.int ((p0 &&& (2147483647 : Int32)) % (7 : Int32))), .val (.ref w_INSURE), .val (.int (0 : Int32))] [])) t
        refine XS.iconst X2.here hx rfl (hb hby at_109) ?_
        exact kt
      refine OGo.retZ X2 hx hlk (t := .boolean) (z' := (0 : Int32)) hret (by simp) (hb hby at_110) rfl ?_ (by decide) (by decide)
      exact ⟨(by rw [f0, if_pos hc9, if_neg hc102]), N2, e2⟩
  · refine OGo.step (F' := s₁.setTop (mkF m 21 #[.val (.int p0), .val (.int ((p0 &&& (2147483647 : Int32)) % (7 : Int32))), .unset, .unset] [])) (fun t kt => ?_) ?_
    · show Steps p.tables e below (s₁.setTop (mkF m 9 #[.val (.int p0), .val (.int ((p0 &&& (2147483647 : Int32)) % (7 : Int32))), .unset, .unset] [(.int ((p0 &&& (2147483647 : Int32)) % (7 : Int32)))])) t
      refine XS.ifYes X0.here hx rfl (pc0 := 9) (pc' := 21) rfl (hb hby at_9) rfl ((if0 _ _).trans (feq hc9).2) (by decide) (by decide) ?_
      exact kt
    refine OGo.step (F' := s₁.setTop (mkF m 23 #[.val (.int p0), .val (.int ((p0 &&& (2147483647 : Int32)) % (7 : Int32))), .unset, .unset] [(.int (1 : Int32)), (.int ((p0 &&& (2147483647 : Int32)) % (7 : Int32)))])) (fun t kt => ?_) ?_
    · show Steps p.tables e below (s₁.setTop (mkF m 21 #[.val (.int p0), .val (.int ((p0 &&& (2147483647 : Int32)) % (7 : Int32))), .unset, .unset] [])) t
      refine XS.iloadN X0.here hx rfl (hb hby at_21) rfl ?_
      show Steps p.tables e below (s₁.setTop (mkF m 22 #[.val (.int p0), .val (.int ((p0 &&& (2147483647 : Int32)) % (7 : Int32))), .unset, .unset] [(.int ((p0 &&& (2147483647 : Int32)) % (7 : Int32)))])) t
      refine XS.iconst X0.here hx rfl (hb hby at_22) ?_
      exact kt
    by_cases hc23 : ((p0 &&& (2147483647 : Int32)) % (7 : Int32)) = (1 : Int32)
    · refine OGo.step (F' := s₁.setTop (mkF m 26 #[.val (.int p0), .val (.int ((p0 &&& (2147483647 : Int32)) % (7 : Int32))), .unset, .unset] [])) (fun t kt => ?_) ?_
      · show Steps p.tables e below (s₁.setTop (mkF m 23 #[.val (.int p0), .val (.int ((p0 &&& (2147483647 : Int32)) % (7 : Int32))), .unset, .unset] [(.int (1 : Int32)), (.int ((p0 &&& (2147483647 : Int32)) % (7 : Int32)))])) t
        refine XS.icmpNo X0.here hx rfl (hb hby at_23) rfl (teq hc23).2 ?_
        exact kt
      obtain ⟨T3, X3, e3, st3⟩ := getS2 X0 hx hZ hown (host := "") (Or.inl (own_wd hw 22 rfl)) Via.refl e0 S_Move_TAKE (g := (mkF m 26 #[.val (.int p0), .val (.int ((p0 &&& (2147483647 : Int32)) % (7 : Int32))), .unset, .unset] [])) rfl (hb hby at_26)
      refine OGo.step st3 ?_
      show OGo _ _ _ _ _ _ _ (T3.setTop (mkF m 29 #[.val (.int p0), .val (.int ((p0 &&& (2147483647 : Int32)) % (7 : Int32))), .unset, .unset] [(.ref w_TAKE)]))
      refine OGo.step (F' := T3.setTop (mkF m 98 #[.val (.int p0), .val (.int ((p0 &&& (2147483647 : Int32)) % (7 : Int32))), .val (.ref w_TAKE), .val (.int (1 : Int32))] [(.ref w_TAKE)])) (fun t kt => ?_) ?_
      · show Steps p.tables e below (T3.setTop (mkF m 29 #[.val (.int p0), .val (.int ((p0 &&& (2147483647 : Int32)) % (7 : Int32))), .unset, .unset] [(.ref w_TAKE)])) t
        refine XS.astoreN X3.here hx rfl (hb hby at_29) rfl rfl (l' := #[.val (.int p0), .val (.int ((p0 &&& (2147483647 : Int32)) % (7 : Int32))), .val (.ref w_TAKE), .unset]) rfl ?_
        show Steps p.tables e below (T3.setTop (mkF m 30 #[.val (.int p0), .val (.int ((p0 &&& (2147483647 : Int32)) % (7 : Int32))), .val (.ref w_TAKE), .unset] [])) t
        refine XS.iconst X3.here hx rfl (hb hby at_30) ?_
        show Steps p.tables e below (T3.setTop (mkF m 31 #[.val (.int p0), .val (.int ((p0 &&& (2147483647 : Int32)) % (7 : Int32))), .val (.ref w_TAKE), .unset] [(.int (1 : Int32))])) t
        refine XS.istoreN X3.here hx rfl (hb hby at_31) rfl (l' := #[.val (.int p0), .val (.int ((p0 &&& (2147483647 : Int32)) % (7 : Int32))), .val (.ref w_TAKE), .val (.int (1 : Int32))]) rfl ?_
        show Steps p.tables e below (T3.setTop (mkF m 32 #[.val (.int p0), .val (.int ((p0 &&& (2147483647 : Int32)) % (7 : Int32))), .val (.ref w_TAKE), .val (.int (1 : Int32))] [])) t
        refine XS.goto X3.here hx rfl (pc0 := 32) (pc' := 97) rfl (hb hby at_32) (by decide) (by decide) ?_
        show Steps p.tables e below (T3.setTop (mkF m 97 #[.val (.int p0), .val (.int ((p0 &&& (2147483647 : Int32)) % (7 : Int32))), .val (.ref w_TAKE), .val (.int (1 : Int32))] [])) t
        refine XS.aloadN X3.here hx rfl (hb hby at_97) rfl rfl ?_
        exact kt
      refine OGo.callV X3 hx hZ (y := (⟨"com/example/oddhands/oddhands/sj/Move", "namesCards", "()Z"⟩ : MethodName)) (z := (⟨"com/example/oddhands/oddhands/sj/Move", "namesCards", "()Z"⟩ : MethodName)) hown (own_wd hw 4 rfl) (own_wd hw 5 rfl) (notFace_of_selects (args := #[]) (mvT hZ (own_wd hw 7 rfl))) (own_wd hw 7 rfl) (own_wd hw 6 rfl) (own_wd hw 2 rfl) (own_wd hw 8 rfl) (by decide) (rm1 l Z az hw [] w_TAKE w_TAKE w_SWITCH h0 n0 Z0 S_Move_TAKE S_Move_SWITCH) (W := 0) (by decide) (by decide) E_w_TAKE (g := (mkF m 98 #[.val (.int p0), .val (.int ((p0 &&& (2147483647 : Int32)) % (7 : Int32))), .val (.ref w_TAKE), .val (.int (1 : Int32))] [(.ref w_TAKE)])) rfl (by rw [hml]; rfl) (argsL := []) (rest := []) (lenOf pd_0_0 rfl) rfl (by show 2 * 0 + _ ≤ _; exact Nat.le_of_eq rfl) (hb hby at_98) rfl e3 (by decide) (by decide) ?_
      rintro _ T4 L4 X4 ⟨rfl, Nq4, e4⟩
      have N4 := Fr.app N0 Nq4
      show OGo _ _ _ _ _ _ _ (T4.setTop (mkF m 101 #[.val (.int p0), .val (.int ((p0 &&& (2147483647 : Int32)) % (7 : Int32))), .val (.ref w_TAKE), .val (.int (1 : Int32))] [(.int (f1 w_TAKE w_TAKE w_SWITCH))]))
      refine OGo.step (F' := T4.setTop (mkF m 102 #[.val (.int p0), .val (.int ((p0 &&& (2147483647 : Int32)) % (7 : Int32))), .val (.ref w_TAKE), .val (.int (1 : Int32))] [(.int (1 : Int32)), (.int (f1 w_TAKE w_TAKE w_SWITCH))])) (fun t kt => ?_) ?_
      · show Steps p.tables e below (T4.setTop (mkF m 101 #[.val (.int p0), .val (.int ((p0 &&& (2147483647 : Int32)) % (7 : Int32))), .val (.ref w_TAKE), .val (.int (1 : Int32))] [(.int (f1 w_TAKE w_TAKE w_SWITCH))])) t
        refine XS.iloadN X4.here hx rfl (hb hby at_101) rfl ?_
        exact kt
      by_cases hc102 : (f1 w_TAKE w_TAKE w_SWITCH) = (1 : Int32)
      · refine OGo.step (F' := T4.setTop (mkF m 105 #[.val (.int p0), .val (.int ((p0 &&& (2147483647 : Int32)) % (7 : Int32))), .val (.ref w_TAKE), .val (.int (1 : Int32))] [])) (fun t kt => ?_) ?_
        · show Steps p.tables e below (T4.setTop (mkF m 102 #[.val (.int p0), .val (.int ((p0 &&& (2147483647 : Int32)) % (7 : Int32))), .val (.ref w_TAKE), .val (.int (1 : Int32))] [(.int (1 : Int32)), (.int (f1 w_TAKE w_TAKE w_SWITCH))])) t
          refine XS.icmpNo X4.here hx rfl (hb hby at_102) rfl (teq hc102).2 ?_
          exact kt
        refine OGo.step (F' := T4.setTop (mkF m 110 #[.val (.int p0), .val (.int ((p0 &&& (2147483647 : Int32)) % (7 : Int32))), .val (.ref w_TAKE), .val (.int (1 : Int32))] [(.int (1 : Int32))])) (fun t kt => ?_) ?_
        · show Steps p.tables e below (T4.setTop (mkF m 105 #[.val (.int p0), .val (.int ((p0 &&& (2147483647 : Int32)) % (7 : Int32))), .val (.ref w_TAKE), .val (.int (1 : Int32))] [])) t
          refine XS.iconst X4.here hx rfl (hb hby at_105) ?_
          show Steps p.tables e below (T4.setTop (mkF m 106 #[.val (.int p0), .val (.int ((p0 &&& (2147483647 : Int32)) % (7 : Int32))), .val (.ref w_TAKE), .val (.int (1 : Int32))] [(.int (1 : Int32))])) t
          refine XS.goto X4.here hx rfl (pc0 := 106) (pc' := 110) rfl (hb hby at_106) (by decide) (by decide) ?_
          exact kt
        refine OGo.retZ X4 hx hlk (t := .boolean) (z' := (1 : Int32)) hret (by simp) (hb hby at_110) rfl ?_ (by decide) (by decide)
        exact ⟨(by rw [f0, if_neg hc9, if_pos hc23, if_pos hc102]), N4, e4⟩
      · refine OGo.step (F' := T4.setTop (mkF m 109 #[.val (.int p0), .val (.int ((p0 &&& (2147483647 : Int32)) % (7 : Int32))), .val (.ref w_TAKE), .val (.int (1 : Int32))] [])) (fun t kt => ?_) ?_
        · show Steps p.tables e below (T4.setTop (mkF m 102 #[.val (.int p0), .val (.int ((p0 &&& (2147483647 : Int32)) % (7 : Int32))), .val (.ref w_TAKE), .val (.int (1 : Int32))] [(.int (1 : Int32)), (.int (f1 w_TAKE w_TAKE w_SWITCH))])) t
          refine XS.icmpYes X4.here hx rfl (pc0 := 102) (pc' := 109) rfl (hb hby at_102) rfl (feq hc102).2 (by decide) (by decide) ?_
          exact kt
        refine OGo.step (F' := T4.setTop (mkF m 110 #[.val (.int p0), .val (.int ((p0 &&& (2147483647 : Int32)) % (7 : Int32))), .val (.ref w_TAKE), .val (.int (1 : Int32))] [(.int (0 : Int32))])) (fun t kt => ?_) ?_
        · show Steps p.tables e below (T4.setTop (mkF m 109 #[.val (.int p0), .val (.int ((p0 &&& (2147483647 : Int32)) % (7 : Int32))), .val (.ref w_TAKE), .val (.int (1 : Int32))] [])) t
          refine XS.iconst X4.here hx rfl (hb hby at_109) ?_
          exact kt
        refine OGo.retZ X4 hx hlk (t := .boolean) (z' := (0 : Int32)) hret (by simp) (hb hby at_110) rfl ?_ (by decide) (by decide)
        exact ⟨(by rw [f0, if_neg hc9, if_pos hc23, if_neg hc102]), N4, e4⟩
    · refine OGo.step (F' := s₁.setTop (mkF m 35 #[.val (.int p0), .val (.int ((p0 &&& (2147483647 : Int32)) % (7 : Int32))), .unset, .unset] [])) (fun t kt => ?_) ?_
      · show Steps p.tables e below (s₁.setTop (mkF m 23 #[.val (.int p0), .val (.int ((p0 &&& (2147483647 : Int32)) % (7 : Int32))), .unset, .unset] [(.int (1 : Int32)), (.int ((p0 &&& (2147483647 : Int32)) % (7 : Int32)))])) t
        refine XS.icmpYes X0.here hx rfl (pc0 := 23) (pc' := 35) rfl (hb hby at_23) rfl (feq hc23).2 (by decide) (by decide) ?_
        exact kt
      refine OGo.step (F' := s₁.setTop (mkF m 37 #[.val (.int p0), .val (.int ((p0 &&& (2147483647 : Int32)) % (7 : Int32))), .unset, .unset] [(.int (2 : Int32)), (.int ((p0 &&& (2147483647 : Int32)) % (7 : Int32)))])) (fun t kt => ?_) ?_
      · show Steps p.tables e below (s₁.setTop (mkF m 35 #[.val (.int p0), .val (.int ((p0 &&& (2147483647 : Int32)) % (7 : Int32))), .unset, .unset] [])) t
        refine XS.iloadN X0.here hx rfl (hb hby at_35) rfl ?_
        show Steps p.tables e below (s₁.setTop (mkF m 36 #[.val (.int p0), .val (.int ((p0 &&& (2147483647 : Int32)) % (7 : Int32))), .unset, .unset] [(.int ((p0 &&& (2147483647 : Int32)) % (7 : Int32)))])) t
        refine XS.iconst X0.here hx rfl (hb hby at_36) ?_
        exact kt
      by_cases hc37 : ((p0 &&& (2147483647 : Int32)) % (7 : Int32)) = (2 : Int32)
      · refine OGo.step (F' := s₁.setTop (mkF m 40 #[.val (.int p0), .val (.int ((p0 &&& (2147483647 : Int32)) % (7 : Int32))), .unset, .unset] [])) (fun t kt => ?_) ?_
        · show Steps p.tables e below (s₁.setTop (mkF m 37 #[.val (.int p0), .val (.int ((p0 &&& (2147483647 : Int32)) % (7 : Int32))), .unset, .unset] [(.int (2 : Int32)), (.int ((p0 &&& (2147483647 : Int32)) % (7 : Int32)))])) t
          refine XS.icmpNo X0.here hx rfl (hb hby at_37) rfl (teq hc37).2 ?_
          exact kt
        obtain ⟨T5, X5, e5, st5⟩ := getS2 X0 hx hZ hown (host := "") (Or.inl (own_wd hw 21 rfl)) Via.refl e0 S_Move_SWITCH (g := (mkF m 40 #[.val (.int p0), .val (.int ((p0 &&& (2147483647 : Int32)) % (7 : Int32))), .unset, .unset] [])) rfl (hb hby at_40)
        refine OGo.step st5 ?_
        show OGo _ _ _ _ _ _ _ (T5.setTop (mkF m 43 #[.val (.int p0), .val (.int ((p0 &&& (2147483647 : Int32)) % (7 : Int32))), .unset, .unset] [(.ref w_SWITCH)]))
        refine OGo.step (F' := T5.setTop (mkF m 98 #[.val (.int p0), .val (.int ((p0 &&& (2147483647 : Int32)) % (7 : Int32))), .val (.ref w_SWITCH), .val (.int (1 : Int32))] [(.ref w_SWITCH)])) (fun t kt => ?_) ?_
        · show Steps p.tables e below (T5.setTop (mkF m 43 #[.val (.int p0), .val (.int ((p0 &&& (2147483647 : Int32)) % (7 : Int32))), .unset, .unset] [(.ref w_SWITCH)])) t
          refine XS.astoreN X5.here hx rfl (hb hby at_43) rfl rfl (l' := #[.val (.int p0), .val (.int ((p0 &&& (2147483647 : Int32)) % (7 : Int32))), .val (.ref w_SWITCH), .unset]) rfl ?_
          show Steps p.tables e below (T5.setTop (mkF m 44 #[.val (.int p0), .val (.int ((p0 &&& (2147483647 : Int32)) % (7 : Int32))), .val (.ref w_SWITCH), .unset] [])) t
          refine XS.iconst X5.here hx rfl (hb hby at_44) ?_
          show Steps p.tables e below (T5.setTop (mkF m 45 #[.val (.int p0), .val (.int ((p0 &&& (2147483647 : Int32)) % (7 : Int32))), .val (.ref w_SWITCH), .unset] [(.int (1 : Int32))])) t
          refine XS.istoreN X5.here hx rfl (hb hby at_45) rfl (l' := #[.val (.int p0), .val (.int ((p0 &&& (2147483647 : Int32)) % (7 : Int32))), .val (.ref w_SWITCH), .val (.int (1 : Int32))]) rfl ?_
          show Steps p.tables e below (T5.setTop (mkF m 46 #[.val (.int p0), .val (.int ((p0 &&& (2147483647 : Int32)) % (7 : Int32))), .val (.ref w_SWITCH), .val (.int (1 : Int32))] [])) t
          refine XS.goto X5.here hx rfl (pc0 := 46) (pc' := 97) rfl (hb hby at_46) (by decide) (by decide) ?_
          show Steps p.tables e below (T5.setTop (mkF m 97 #[.val (.int p0), .val (.int ((p0 &&& (2147483647 : Int32)) % (7 : Int32))), .val (.ref w_SWITCH), .val (.int (1 : Int32))] [])) t
          refine XS.aloadN X5.here hx rfl (hb hby at_97) rfl rfl ?_
          exact kt
        refine OGo.callV X5 hx hZ (y := (⟨"com/example/oddhands/oddhands/sj/Move", "namesCards", "()Z"⟩ : MethodName)) (z := (⟨"com/example/oddhands/oddhands/sj/Move", "namesCards", "()Z"⟩ : MethodName)) hown (own_wd hw 4 rfl) (own_wd hw 5 rfl) (notFace_of_selects (args := #[]) (mvT hZ (own_wd hw 7 rfl))) (own_wd hw 7 rfl) (own_wd hw 6 rfl) (own_wd hw 2 rfl) (own_wd hw 8 rfl) (by decide) (rm1 l Z az hw [] w_SWITCH w_TAKE w_SWITCH h0 n0 Z0 S_Move_TAKE S_Move_SWITCH) (W := 0) (by decide) (by decide) E_w_SWITCH (g := (mkF m 98 #[.val (.int p0), .val (.int ((p0 &&& (2147483647 : Int32)) % (7 : Int32))), .val (.ref w_SWITCH), .val (.int (1 : Int32))] [(.ref w_SWITCH)])) rfl (by rw [hml]; rfl) (argsL := []) (rest := []) (lenOf pd_0_0 rfl) rfl (by show 2 * 0 + _ ≤ _; exact Nat.le_of_eq rfl) (hb hby at_98) rfl e5 (by decide) (by decide) ?_
        rintro _ T6 L6 X6 ⟨rfl, Nq6, e6⟩
        have N6 := Fr.app N0 Nq6
        show OGo _ _ _ _ _ _ _ (T6.setTop (mkF m 101 #[.val (.int p0), .val (.int ((p0 &&& (2147483647 : Int32)) % (7 : Int32))), .val (.ref w_SWITCH), .val (.int (1 : Int32))] [(.int (f1 w_SWITCH w_TAKE w_SWITCH))]))
        refine OGo.step (F' := T6.setTop (mkF m 102 #[.val (.int p0), .val (.int ((p0 &&& (2147483647 : Int32)) % (7 : Int32))), .val (.ref w_SWITCH), .val (.int (1 : Int32))] [(.int (1 : Int32)), (.int (f1 w_SWITCH w_TAKE w_SWITCH))])) (fun t kt => ?_) ?_
        · show Steps p.tables e below (T6.setTop (mkF m 101 #[.val (.int p0), .val (.int ((p0 &&& (2147483647 : Int32)) % (7 : Int32))), .val (.ref w_SWITCH), .val (.int (1 : Int32))] [(.int (f1 w_SWITCH w_TAKE w_SWITCH))])) t
          refine XS.iloadN X6.here hx rfl (hb hby at_101) rfl ?_
          exact kt
        by_cases hc102 : (f1 w_SWITCH w_TAKE w_SWITCH) = (1 : Int32)
        · refine OGo.step (F' := T6.setTop (mkF m 105 #[.val (.int p0), .val (.int ((p0 &&& (2147483647 : Int32)) % (7 : Int32))), .val (.ref w_SWITCH), .val (.int (1 : Int32))] [])) (fun t kt => ?_) ?_
          · show Steps p.tables e below (T6.setTop (mkF m 102 #[.val (.int p0), .val (.int ((p0 &&& (2147483647 : Int32)) % (7 : Int32))), .val (.ref w_SWITCH), .val (.int (1 : Int32))] [(.int (1 : Int32)), (.int (f1 w_SWITCH w_TAKE w_SWITCH))])) t
            refine XS.icmpNo X6.here hx rfl (hb hby at_102) rfl (teq hc102).2 ?_
            exact kt
          refine OGo.step (F' := T6.setTop (mkF m 110 #[.val (.int p0), .val (.int ((p0 &&& (2147483647 : Int32)) % (7 : Int32))), .val (.ref w_SWITCH), .val (.int (1 : Int32))] [(.int (1 : Int32))])) (fun t kt => ?_) ?_
          · show Steps p.tables e below (T6.setTop (mkF m 105 #[.val (.int p0), .val (.int ((p0 &&& (2147483647 : Int32)) % (7 : Int32))), .val (.ref w_SWITCH), .val (.int (1 : Int32))] [])) t
            refine XS.iconst X6.here hx rfl (hb hby at_105) ?_
            show Steps p.tables e below (T6.setTop (mkF m 106 #[.val (.int p0), .val (.int ((p0 &&& (2147483647 : Int32)) % (7 : Int32))), .val (.ref w_SWITCH), .val (.int (1 : Int32))] [(.int (1 : Int32))])) t
            refine XS.goto X6.here hx rfl (pc0 := 106) (pc' := 110) rfl (hb hby at_106) (by decide) (by decide) ?_
            exact kt
          refine OGo.retZ X6 hx hlk (t := .boolean) (z' := (1 : Int32)) hret (by simp) (hb hby at_110) rfl ?_ (by decide) (by decide)
          exact ⟨(by rw [f0, if_neg hc9, if_neg hc23, if_pos hc37, if_pos hc102]), N6, e6⟩
        · refine OGo.step (F' := T6.setTop (mkF m 109 #[.val (.int p0), .val (.int ((p0 &&& (2147483647 : Int32)) % (7 : Int32))), .val (.ref w_SWITCH), .val (.int (1 : Int32))] [])) (fun t kt => ?_) ?_
          · show Steps p.tables e below (T6.setTop (mkF m 102 #[.val (.int p0), .val (.int ((p0 &&& (2147483647 : Int32)) % (7 : Int32))), .val (.ref w_SWITCH), .val (.int (1 : Int32))] [(.int (1 : Int32)), (.int (f1 w_SWITCH w_TAKE w_SWITCH))])) t
            refine XS.icmpYes X6.here hx rfl (pc0 := 102) (pc' := 109) rfl (hb hby at_102) rfl (feq hc102).2 (by decide) (by decide) ?_
            exact kt
          refine OGo.step (F' := T6.setTop (mkF m 110 #[.val (.int p0), .val (.int ((p0 &&& (2147483647 : Int32)) % (7 : Int32))), .val (.ref w_SWITCH), .val (.int (1 : Int32))] [(.int (0 : Int32))])) (fun t kt => ?_) ?_
          · show Steps p.tables e below (T6.setTop (mkF m 109 #[.val (.int p0), .val (.int ((p0 &&& (2147483647 : Int32)) % (7 : Int32))), .val (.ref w_SWITCH), .val (.int (1 : Int32))] [])) t
            refine XS.iconst X6.here hx rfl (hb hby at_109) ?_
            exact kt
          refine OGo.retZ X6 hx hlk (t := .boolean) (z' := (0 : Int32)) hret (by simp) (hb hby at_110) rfl ?_ (by decide) (by decide)
          exact ⟨(by rw [f0, if_neg hc9, if_neg hc23, if_pos hc37, if_neg hc102]), N6, e6⟩
      · refine OGo.step (F' := s₁.setTop (mkF m 49 #[.val (.int p0), .val (.int ((p0 &&& (2147483647 : Int32)) % (7 : Int32))), .unset, .unset] [])) (fun t kt => ?_) ?_
        · show Steps p.tables e below (s₁.setTop (mkF m 37 #[.val (.int p0), .val (.int ((p0 &&& (2147483647 : Int32)) % (7 : Int32))), .unset, .unset] [(.int (2 : Int32)), (.int ((p0 &&& (2147483647 : Int32)) % (7 : Int32)))])) t
          refine XS.icmpYes X0.here hx rfl (pc0 := 37) (pc' := 49) rfl (hb hby at_37) rfl (feq hc37).2 (by decide) (by decide) ?_
          exact kt
        refine OGo.step (F' := s₁.setTop (mkF m 51 #[.val (.int p0), .val (.int ((p0 &&& (2147483647 : Int32)) % (7 : Int32))), .unset, .unset] [(.int (3 : Int32)), (.int ((p0 &&& (2147483647 : Int32)) % (7 : Int32)))])) (fun t kt => ?_) ?_
        · show Steps p.tables e below (s₁.setTop (mkF m 49 #[.val (.int p0), .val (.int ((p0 &&& (2147483647 : Int32)) % (7 : Int32))), .unset, .unset] [])) t
          refine XS.iloadN X0.here hx rfl (hb hby at_49) rfl ?_
          show Steps p.tables e below (s₁.setTop (mkF m 50 #[.val (.int p0), .val (.int ((p0 &&& (2147483647 : Int32)) % (7 : Int32))), .unset, .unset] [(.int ((p0 &&& (2147483647 : Int32)) % (7 : Int32)))])) t
          refine XS.iconst X0.here hx rfl (hb hby at_50) ?_
          exact kt
        by_cases hc51 : ((p0 &&& (2147483647 : Int32)) % (7 : Int32)) = (3 : Int32)
        · refine OGo.step (F' := s₁.setTop (mkF m 54 #[.val (.int p0), .val (.int ((p0 &&& (2147483647 : Int32)) % (7 : Int32))), .unset, .unset] [])) (fun t kt => ?_) ?_
          · show Steps p.tables e below (s₁.setTop (mkF m 51 #[.val (.int p0), .val (.int ((p0 &&& (2147483647 : Int32)) % (7 : Int32))), .unset, .unset] [(.int (3 : Int32)), (.int ((p0 &&& (2147483647 : Int32)) % (7 : Int32)))])) t
            refine XS.icmpNo X0.here hx rfl (hb hby at_51) rfl (teq hc51).2 ?_
            exact kt
          obtain ⟨T7, X7, e7, st7⟩ := getS2 X0 hx hZ hown (host := "") (Or.inl (own_wd hw 13 rfl)) Via.refl e0 S_Move_END (g := (mkF m 54 #[.val (.int p0), .val (.int ((p0 &&& (2147483647 : Int32)) % (7 : Int32))), .unset, .unset] [])) rfl (hb hby at_54)
          refine OGo.step st7 ?_
          show OGo _ _ _ _ _ _ _ (T7.setTop (mkF m 57 #[.val (.int p0), .val (.int ((p0 &&& (2147483647 : Int32)) % (7 : Int32))), .unset, .unset] [(.ref w_END)]))
          refine OGo.step (F' := T7.setTop (mkF m 98 #[.val (.int p0), .val (.int ((p0 &&& (2147483647 : Int32)) % (7 : Int32))), .val (.ref w_END), .val (.int (0 : Int32))] [(.ref w_END)])) (fun t kt => ?_) ?_
          · show Steps p.tables e below (T7.setTop (mkF m 57 #[.val (.int p0), .val (.int ((p0 &&& (2147483647 : Int32)) % (7 : Int32))), .unset, .unset] [(.ref w_END)])) t
            refine XS.astoreN X7.here hx rfl (hb hby at_57) rfl rfl (l' := #[.val (.int p0), .val (.int ((p0 &&& (2147483647 : Int32)) % (7 : Int32))), .val (.ref w_END), .unset]) rfl ?_
            show Steps p.tables e below (T7.setTop (mkF m 58 #[.val (.int p0), .val (.int ((p0 &&& (2147483647 : Int32)) % (7 : Int32))), .val (.ref w_END), .unset] [])) t
            refine XS.iconst X7.here hx rfl (hb hby at_58) ?_
            show Steps p.tables e below (T7.setTop (mkF m 59 #[.val (.int p0), .val (.int ((p0 &&& (2147483647 : Int32)) % (7 : Int32))), .val (.ref w_END), .unset] [(.int (0 : Int32))])) t
            refine XS.istoreN X7.here hx rfl (hb hby at_59) rfl (l' := #[.val (.int p0), .val (.int ((p0 &&& (2147483647 : Int32)) % (7 : Int32))), .val (.ref w_END), .val (.int (0 : Int32))]) rfl ?_
            show Steps p.tables e below (T7.setTop (mkF m 60 #[.val (.int p0), .val (.int ((p0 &&& (2147483647 : Int32)) % (7 : Int32))), .val (.ref w_END), .val (.int (0 : Int32))] [])) t
            refine XS.goto X7.here hx rfl (pc0 := 60) (pc' := 97) rfl (hb hby at_60) (by decide) (by decide) ?_
            show Steps p.tables e below (T7.setTop (mkF m 97 #[.val (.int p0), .val (.int ((p0 &&& (2147483647 : Int32)) % (7 : Int32))), .val (.ref w_END), .val (.int (0 : Int32))] [])) t
            refine XS.aloadN X7.here hx rfl (hb hby at_97) rfl rfl ?_
            exact kt
          refine OGo.callV X7 hx hZ (y := (⟨"com/example/oddhands/oddhands/sj/Move", "namesCards", "()Z"⟩ : MethodName)) (z := (⟨"com/example/oddhands/oddhands/sj/Move", "namesCards", "()Z"⟩ : MethodName)) hown (own_wd hw 4 rfl) (own_wd hw 5 rfl) (notFace_of_selects (args := #[]) (mvT hZ (own_wd hw 7 rfl))) (own_wd hw 7 rfl) (own_wd hw 6 rfl) (own_wd hw 2 rfl) (own_wd hw 8 rfl) (by decide) (rm1 l Z az hw [] w_END w_TAKE w_SWITCH h0 n0 Z0 S_Move_TAKE S_Move_SWITCH) (W := 0) (by decide) (by decide) E_w_END (g := (mkF m 98 #[.val (.int p0), .val (.int ((p0 &&& (2147483647 : Int32)) % (7 : Int32))), .val (.ref w_END), .val (.int (0 : Int32))] [(.ref w_END)])) rfl (by rw [hml]; rfl) (argsL := []) (rest := []) (lenOf pd_0_0 rfl) rfl (by show 2 * 0 + _ ≤ _; exact Nat.le_of_eq rfl) (hb hby at_98) rfl e7 (by decide) (by decide) ?_
          rintro _ T8 L8 X8 ⟨rfl, Nq8, e8⟩
          have N8 := Fr.app N0 Nq8
          show OGo _ _ _ _ _ _ _ (T8.setTop (mkF m 101 #[.val (.int p0), .val (.int ((p0 &&& (2147483647 : Int32)) % (7 : Int32))), .val (.ref w_END), .val (.int (0 : Int32))] [(.int (f1 w_END w_TAKE w_SWITCH))]))
          refine OGo.step (F' := T8.setTop (mkF m 102 #[.val (.int p0), .val (.int ((p0 &&& (2147483647 : Int32)) % (7 : Int32))), .val (.ref w_END), .val (.int (0 : Int32))] [(.int (0 : Int32)), (.int (f1 w_END w_TAKE w_SWITCH))])) (fun t kt => ?_) ?_
          · show Steps p.tables e below (T8.setTop (mkF m 101 #[.val (.int p0), .val (.int ((p0 &&& (2147483647 : Int32)) % (7 : Int32))), .val (.ref w_END), .val (.int (0 : Int32))] [(.int (f1 w_END w_TAKE w_SWITCH))])) t
            refine XS.iloadN X8.here hx rfl (hb hby at_101) rfl ?_
            exact kt
          by_cases hc102 : (f1 w_END w_TAKE w_SWITCH) = (0 : Int32)
          · refine OGo.step (F' := T8.setTop (mkF m 105 #[.val (.int p0), .val (.int ((p0 &&& (2147483647 : Int32)) % (7 : Int32))), .val (.ref w_END), .val (.int (0 : Int32))] [])) (fun t kt => ?_) ?_
            · show Steps p.tables e below (T8.setTop (mkF m 102 #[.val (.int p0), .val (.int ((p0 &&& (2147483647 : Int32)) % (7 : Int32))), .val (.ref w_END), .val (.int (0 : Int32))] [(.int (0 : Int32)), (.int (f1 w_END w_TAKE w_SWITCH))])) t
              refine XS.icmpNo X8.here hx rfl (hb hby at_102) rfl (teq hc102).2 ?_
              exact kt
            refine OGo.step (F' := T8.setTop (mkF m 110 #[.val (.int p0), .val (.int ((p0 &&& (2147483647 : Int32)) % (7 : Int32))), .val (.ref w_END), .val (.int (0 : Int32))] [(.int (1 : Int32))])) (fun t kt => ?_) ?_
            · show Steps p.tables e below (T8.setTop (mkF m 105 #[.val (.int p0), .val (.int ((p0 &&& (2147483647 : Int32)) % (7 : Int32))), .val (.ref w_END), .val (.int (0 : Int32))] [])) t
              refine XS.iconst X8.here hx rfl (hb hby at_105) ?_
              show Steps p.tables e below (T8.setTop (mkF m 106 #[.val (.int p0), .val (.int ((p0 &&& (2147483647 : Int32)) % (7 : Int32))), .val (.ref w_END), .val (.int (0 : Int32))] [(.int (1 : Int32))])) t
              refine XS.goto X8.here hx rfl (pc0 := 106) (pc' := 110) rfl (hb hby at_106) (by decide) (by decide) ?_
              exact kt
            refine OGo.retZ X8 hx hlk (t := .boolean) (z' := (1 : Int32)) hret (by simp) (hb hby at_110) rfl ?_ (by decide) (by decide)
            exact ⟨(by rw [f0, if_neg hc9, if_neg hc23, if_neg hc37, if_pos hc51, if_pos hc102]), N8, e8⟩
          · refine OGo.step (F' := T8.setTop (mkF m 109 #[.val (.int p0), .val (.int ((p0 &&& (2147483647 : Int32)) % (7 : Int32))), .val (.ref w_END), .val (.int (0 : Int32))] [])) (fun t kt => ?_) ?_
            · show Steps p.tables e below (T8.setTop (mkF m 102 #[.val (.int p0), .val (.int ((p0 &&& (2147483647 : Int32)) % (7 : Int32))), .val (.ref w_END), .val (.int (0 : Int32))] [(.int (0 : Int32)), (.int (f1 w_END w_TAKE w_SWITCH))])) t
              refine XS.icmpYes X8.here hx rfl (pc0 := 102) (pc' := 109) rfl (hb hby at_102) rfl (feq hc102).2 (by decide) (by decide) ?_
              exact kt
            refine OGo.step (F' := T8.setTop (mkF m 110 #[.val (.int p0), .val (.int ((p0 &&& (2147483647 : Int32)) % (7 : Int32))), .val (.ref w_END), .val (.int (0 : Int32))] [(.int (0 : Int32))])) (fun t kt => ?_) ?_
            · show Steps p.tables e below (T8.setTop (mkF m 109 #[.val (.int p0), .val (.int ((p0 &&& (2147483647 : Int32)) % (7 : Int32))), .val (.ref w_END), .val (.int (0 : Int32))] [])) t
              refine XS.iconst X8.here hx rfl (hb hby at_109) ?_
              exact kt
            refine OGo.retZ X8 hx hlk (t := .boolean) (z' := (0 : Int32)) hret (by simp) (hb hby at_110) rfl ?_ (by decide) (by decide)
            exact ⟨(by rw [f0, if_neg hc9, if_neg hc23, if_neg hc37, if_pos hc51, if_neg hc102]), N8, e8⟩
        · refine OGo.step (F' := s₁.setTop (mkF m 63 #[.val (.int p0), .val (.int ((p0 &&& (2147483647 : Int32)) % (7 : Int32))), .unset, .unset] [])) (fun t kt => ?_) ?_
          · show Steps p.tables e below (s₁.setTop (mkF m 51 #[.val (.int p0), .val (.int ((p0 &&& (2147483647 : Int32)) % (7 : Int32))), .unset, .unset] [(.int (3 : Int32)), (.int ((p0 &&& (2147483647 : Int32)) % (7 : Int32)))])) t
            refine XS.icmpYes X0.here hx rfl (pc0 := 51) (pc' := 63) rfl (hb hby at_51) rfl (feq hc51).2 (by decide) (by decide) ?_
            exact kt
          refine OGo.step (F' := s₁.setTop (mkF m 65 #[.val (.int p0), .val (.int ((p0 &&& (2147483647 : Int32)) % (7 : Int32))), .unset, .unset] [(.int (4 : Int32)), (.int ((p0 &&& (2147483647 : Int32)) % (7 : Int32)))])) (fun t kt => ?_) ?_
          · show Steps p.tables e below (s₁.setTop (mkF m 63 #[.val (.int p0), .val (.int ((p0 &&& (2147483647 : Int32)) % (7 : Int32))), .unset, .unset] [])) t
            refine XS.iloadN X0.here hx rfl (hb hby at_63) rfl ?_
            show Steps p.tables e below (s₁.setTop (mkF m 64 #[.val (.int p0), .val (.int ((p0 &&& (2147483647 : Int32)) % (7 : Int32))), .unset, .unset] [(.int ((p0 &&& (2147483647 : Int32)) % (7 : Int32)))])) t
            refine XS.iconst X0.here hx rfl (hb hby at_64) ?_
            exact kt
          by_cases hc65 : ((p0 &&& (2147483647 : Int32)) % (7 : Int32)) = (4 : Int32)
          · refine OGo.step (F' := s₁.setTop (mkF m 68 #[.val (.int p0), .val (.int ((p0 &&& (2147483647 : Int32)) % (7 : Int32))), .unset, .unset] [])) (fun t kt => ?_) ?_
            · show Steps p.tables e below (s₁.setTop (mkF m 65 #[.val (.int p0), .val (.int ((p0 &&& (2147483647 : Int32)) % (7 : Int32))), .unset, .unset] [(.int (4 : Int32)), (.int ((p0 &&& (2147483647 : Int32)) % (7 : Int32)))])) t
              refine XS.icmpNo X0.here hx rfl (hb hby at_65) rfl (teq hc65).2 ?_
              exact kt
            obtain ⟨T9, X9, e9, st9⟩ := getS2 X0 hx hZ hown (host := "") (Or.inl (own_wd hw 19 rfl)) Via.refl e0 S_Move_GO (g := (mkF m 68 #[.val (.int p0), .val (.int ((p0 &&& (2147483647 : Int32)) % (7 : Int32))), .unset, .unset] [])) rfl (hb hby at_68)
            refine OGo.step st9 ?_
            show OGo _ _ _ _ _ _ _ (T9.setTop (mkF m 71 #[.val (.int p0), .val (.int ((p0 &&& (2147483647 : Int32)) % (7 : Int32))), .unset, .unset] [(.ref w_GO)]))
            refine OGo.step (F' := T9.setTop (mkF m 98 #[.val (.int p0), .val (.int ((p0 &&& (2147483647 : Int32)) % (7 : Int32))), .val (.ref w_GO), .val (.int (0 : Int32))] [(.ref w_GO)])) (fun t kt => ?_) ?_
            · show Steps p.tables e below (T9.setTop (mkF m 71 #[.val (.int p0), .val (.int ((p0 &&& (2147483647 : Int32)) % (7 : Int32))), .unset, .unset] [(.ref w_GO)])) t
              refine XS.astoreN X9.here hx rfl (hb hby at_71) rfl rfl (l' := #[.val (.int p0), .val (.int ((p0 &&& (2147483647 : Int32)) % (7 : Int32))), .val (.ref w_GO), .unset]) rfl ?_
              show Steps p.tables e below (T9.setTop (mkF m 72 #[.val (.int p0), .val (.int ((p0 &&& (2147483647 : Int32)) % (7 : Int32))), .val (.ref w_GO), .unset] [])) t
              refine XS.iconst X9.here hx rfl (hb hby at_72) ?_
              show Steps p.tables e below (T9.setTop (mkF m 73 #[.val (.int p0), .val (.int ((p0 &&& (2147483647 : Int32)) % (7 : Int32))), .val (.ref w_GO), .unset] [(.int (0 : Int32))])) t
              refine XS.istoreN X9.here hx rfl (hb hby at_73) rfl (l' := #[.val (.int p0), .val (.int ((p0 &&& (2147483647 : Int32)) % (7 : Int32))), .val (.ref w_GO), .val (.int (0 : Int32))]) rfl ?_
              show Steps p.tables e below (T9.setTop (mkF m 74 #[.val (.int p0), .val (.int ((p0 &&& (2147483647 : Int32)) % (7 : Int32))), .val (.ref w_GO), .val (.int (0 : Int32))] [])) t
              refine XS.goto X9.here hx rfl (pc0 := 74) (pc' := 97) rfl (hb hby at_74) (by decide) (by decide) ?_
              show Steps p.tables e below (T9.setTop (mkF m 97 #[.val (.int p0), .val (.int ((p0 &&& (2147483647 : Int32)) % (7 : Int32))), .val (.ref w_GO), .val (.int (0 : Int32))] [])) t
              refine XS.aloadN X9.here hx rfl (hb hby at_97) rfl rfl ?_
              exact kt
            refine OGo.callV X9 hx hZ (y := (⟨"com/example/oddhands/oddhands/sj/Move", "namesCards", "()Z"⟩ : MethodName)) (z := (⟨"com/example/oddhands/oddhands/sj/Move", "namesCards", "()Z"⟩ : MethodName)) hown (own_wd hw 4 rfl) (own_wd hw 5 rfl) (notFace_of_selects (args := #[]) (mvT hZ (own_wd hw 7 rfl))) (own_wd hw 7 rfl) (own_wd hw 6 rfl) (own_wd hw 2 rfl) (own_wd hw 8 rfl) (by decide) (rm1 l Z az hw [] w_GO w_TAKE w_SWITCH h0 n0 Z0 S_Move_TAKE S_Move_SWITCH) (W := 0) (by decide) (by decide) E_w_GO (g := (mkF m 98 #[.val (.int p0), .val (.int ((p0 &&& (2147483647 : Int32)) % (7 : Int32))), .val (.ref w_GO), .val (.int (0 : Int32))] [(.ref w_GO)])) rfl (by rw [hml]; rfl) (argsL := []) (rest := []) (lenOf pd_0_0 rfl) rfl (by show 2 * 0 + _ ≤ _; exact Nat.le_of_eq rfl) (hb hby at_98) rfl e9 (by decide) (by decide) ?_
            rintro _ T10 L10 X10 ⟨rfl, Nq10, e10⟩
            have N10 := Fr.app N0 Nq10
            show OGo _ _ _ _ _ _ _ (T10.setTop (mkF m 101 #[.val (.int p0), .val (.int ((p0 &&& (2147483647 : Int32)) % (7 : Int32))), .val (.ref w_GO), .val (.int (0 : Int32))] [(.int (f1 w_GO w_TAKE w_SWITCH))]))
            refine OGo.step (F' := T10.setTop (mkF m 102 #[.val (.int p0), .val (.int ((p0 &&& (2147483647 : Int32)) % (7 : Int32))), .val (.ref w_GO), .val (.int (0 : Int32))] [(.int (0 : Int32)), (.int (f1 w_GO w_TAKE w_SWITCH))])) (fun t kt => ?_) ?_
            · show Steps p.tables e below (T10.setTop (mkF m 101 #[.val (.int p0), .val (.int ((p0 &&& (2147483647 : Int32)) % (7 : Int32))), .val (.ref w_GO), .val (.int (0 : Int32))] [(.int (f1 w_GO w_TAKE w_SWITCH))])) t
              refine XS.iloadN X10.here hx rfl (hb hby at_101) rfl ?_
              exact kt
            by_cases hc102 : (f1 w_GO w_TAKE w_SWITCH) = (0 : Int32)
            · refine OGo.step (F' := T10.setTop (mkF m 105 #[.val (.int p0), .val (.int ((p0 &&& (2147483647 : Int32)) % (7 : Int32))), .val (.ref w_GO), .val (.int (0 : Int32))] [])) (fun t kt => ?_) ?_
              · show Steps p.tables e below (T10.setTop (mkF m 102 #[.val (.int p0), .val (.int ((p0 &&& (2147483647 : Int32)) % (7 : Int32))), .val (.ref w_GO), .val (.int (0 : Int32))] [(.int (0 : Int32)), (.int (f1 w_GO w_TAKE w_SWITCH))])) t
                refine XS.icmpNo X10.here hx rfl (hb hby at_102) rfl (teq hc102).2 ?_
                exact kt
              refine OGo.step (F' := T10.setTop (mkF m 110 #[.val (.int p0), .val (.int ((p0 &&& (2147483647 : Int32)) % (7 : Int32))), .val (.ref w_GO), .val (.int (0 : Int32))] [(.int (1 : Int32))])) (fun t kt => ?_) ?_
              · show Steps p.tables e below (T10.setTop (mkF m 105 #[.val (.int p0), .val (.int ((p0 &&& (2147483647 : Int32)) % (7 : Int32))), .val (.ref w_GO), .val (.int (0 : Int32))] [])) t
                refine XS.iconst X10.here hx rfl (hb hby at_105) ?_
                show Steps p.tables e below (T10.setTop (mkF m 106 #[.val (.int p0), .val (.int ((p0 &&& (2147483647 : Int32)) % (7 : Int32))), .val (.ref w_GO), .val (.int (0 : Int32))] [(.int (1 : Int32))])) t
                refine XS.goto X10.here hx rfl (pc0 := 106) (pc' := 110) rfl (hb hby at_106) (by decide) (by decide) ?_
                exact kt
              refine OGo.retZ X10 hx hlk (t := .boolean) (z' := (1 : Int32)) hret (by simp) (hb hby at_110) rfl ?_ (by decide) (by decide)
              exact ⟨(by rw [f0, if_neg hc9, if_neg hc23, if_neg hc37, if_neg hc51, if_pos hc65, if_pos hc102]), N10, e10⟩
            · refine OGo.step (F' := T10.setTop (mkF m 109 #[.val (.int p0), .val (.int ((p0 &&& (2147483647 : Int32)) % (7 : Int32))), .val (.ref w_GO), .val (.int (0 : Int32))] [])) (fun t kt => ?_) ?_
              · show Steps p.tables e below (T10.setTop (mkF m 102 #[.val (.int p0), .val (.int ((p0 &&& (2147483647 : Int32)) % (7 : Int32))), .val (.ref w_GO), .val (.int (0 : Int32))] [(.int (0 : Int32)), (.int (f1 w_GO w_TAKE w_SWITCH))])) t
                refine XS.icmpYes X10.here hx rfl (pc0 := 102) (pc' := 109) rfl (hb hby at_102) rfl (feq hc102).2 (by decide) (by decide) ?_
                exact kt
              refine OGo.step (F' := T10.setTop (mkF m 110 #[.val (.int p0), .val (.int ((p0 &&& (2147483647 : Int32)) % (7 : Int32))), .val (.ref w_GO), .val (.int (0 : Int32))] [(.int (0 : Int32))])) (fun t kt => ?_) ?_
              · show Steps p.tables e below (T10.setTop (mkF m 109 #[.val (.int p0), .val (.int ((p0 &&& (2147483647 : Int32)) % (7 : Int32))), .val (.ref w_GO), .val (.int (0 : Int32))] [])) t
                refine XS.iconst X10.here hx rfl (hb hby at_109) ?_
                exact kt
              refine OGo.retZ X10 hx hlk (t := .boolean) (z' := (0 : Int32)) hret (by simp) (hb hby at_110) rfl ?_ (by decide) (by decide)
              exact ⟨(by rw [f0, if_neg hc9, if_neg hc23, if_neg hc37, if_neg hc51, if_pos hc65, if_neg hc102]), N10, e10⟩
          · refine OGo.step (F' := s₁.setTop (mkF m 77 #[.val (.int p0), .val (.int ((p0 &&& (2147483647 : Int32)) % (7 : Int32))), .unset, .unset] [])) (fun t kt => ?_) ?_
            · show Steps p.tables e below (s₁.setTop (mkF m 65 #[.val (.int p0), .val (.int ((p0 &&& (2147483647 : Int32)) % (7 : Int32))), .unset, .unset] [(.int (4 : Int32)), (.int ((p0 &&& (2147483647 : Int32)) % (7 : Int32)))])) t
              refine XS.icmpYes X0.here hx rfl (pc0 := 65) (pc' := 77) rfl (hb hby at_65) rfl (feq hc65).2 (by decide) (by decide) ?_
              exact kt
            refine OGo.step (F' := s₁.setTop (mkF m 79 #[.val (.int p0), .val (.int ((p0 &&& (2147483647 : Int32)) % (7 : Int32))), .unset, .unset] [(.int (5 : Int32)), (.int ((p0 &&& (2147483647 : Int32)) % (7 : Int32)))])) (fun t kt => ?_) ?_
            · show Steps p.tables e below (s₁.setTop (mkF m 77 #[.val (.int p0), .val (.int ((p0 &&& (2147483647 : Int32)) % (7 : Int32))), .unset, .unset] [])) t
              refine XS.iloadN X0.here hx rfl (hb hby at_77) rfl ?_
              show Steps p.tables e below (s₁.setTop (mkF m 78 #[.val (.int p0), .val (.int ((p0 &&& (2147483647 : Int32)) % (7 : Int32))), .unset, .unset] [(.int ((p0 &&& (2147483647 : Int32)) % (7 : Int32)))])) t
              refine XS.iconst X0.here hx rfl (hb hby at_78) ?_
              exact kt
            by_cases hc79 : ((p0 &&& (2147483647 : Int32)) % (7 : Int32)) = (5 : Int32)
            · refine OGo.step (F' := s₁.setTop (mkF m 82 #[.val (.int p0), .val (.int ((p0 &&& (2147483647 : Int32)) % (7 : Int32))), .unset, .unset] [])) (fun t kt => ?_) ?_
              · show Steps p.tables e below (s₁.setTop (mkF m 79 #[.val (.int p0), .val (.int ((p0 &&& (2147483647 : Int32)) % (7 : Int32))), .unset, .unset] [(.int (5 : Int32)), (.int ((p0 &&& (2147483647 : Int32)) % (7 : Int32)))])) t
                refine XS.icmpNo X0.here hx rfl (hb hby at_79) rfl (teq hc79).2 ?_
                exact kt
              obtain ⟨T11, X11, e11, st11⟩ := getS2 X0 hx hZ hown (host := "") (Or.inl (own_wd hw 15 rfl)) Via.refl e0 S_Move_STOP (g := (mkF m 82 #[.val (.int p0), .val (.int ((p0 &&& (2147483647 : Int32)) % (7 : Int32))), .unset, .unset] [])) rfl (hb hby at_82)
              refine OGo.step st11 ?_
              show OGo _ _ _ _ _ _ _ (T11.setTop (mkF m 85 #[.val (.int p0), .val (.int ((p0 &&& (2147483647 : Int32)) % (7 : Int32))), .unset, .unset] [(.ref w_STOP)]))
              refine OGo.step (F' := T11.setTop (mkF m 98 #[.val (.int p0), .val (.int ((p0 &&& (2147483647 : Int32)) % (7 : Int32))), .val (.ref w_STOP), .val (.int (0 : Int32))] [(.ref w_STOP)])) (fun t kt => ?_) ?_
              · show Steps p.tables e below (T11.setTop (mkF m 85 #[.val (.int p0), .val (.int ((p0 &&& (2147483647 : Int32)) % (7 : Int32))), .unset, .unset] [(.ref w_STOP)])) t
                refine XS.astoreN X11.here hx rfl (hb hby at_85) rfl rfl (l' := #[.val (.int p0), .val (.int ((p0 &&& (2147483647 : Int32)) % (7 : Int32))), .val (.ref w_STOP), .unset]) rfl ?_
                show Steps p.tables e below (T11.setTop (mkF m 86 #[.val (.int p0), .val (.int ((p0 &&& (2147483647 : Int32)) % (7 : Int32))), .val (.ref w_STOP), .unset] [])) t
                refine XS.iconst X11.here hx rfl (hb hby at_86) ?_
                show Steps p.tables e below (T11.setTop (mkF m 87 #[.val (.int p0), .val (.int ((p0 &&& (2147483647 : Int32)) % (7 : Int32))), .val (.ref w_STOP), .unset] [(.int (0 : Int32))])) t
                refine XS.istoreN X11.here hx rfl (hb hby at_87) rfl (l' := #[.val (.int p0), .val (.int ((p0 &&& (2147483647 : Int32)) % (7 : Int32))), .val (.ref w_STOP), .val (.int (0 : Int32))]) rfl ?_
                show Steps p.tables e below (T11.setTop (mkF m 88 #[.val (.int p0), .val (.int ((p0 &&& (2147483647 : Int32)) % (7 : Int32))), .val (.ref w_STOP), .val (.int (0 : Int32))] [])) t
                refine XS.goto X11.here hx rfl (pc0 := 88) (pc' := 97) rfl (hb hby at_88) (by decide) (by decide) ?_
                show Steps p.tables e below (T11.setTop (mkF m 97 #[.val (.int p0), .val (.int ((p0 &&& (2147483647 : Int32)) % (7 : Int32))), .val (.ref w_STOP), .val (.int (0 : Int32))] [])) t
                refine XS.aloadN X11.here hx rfl (hb hby at_97) rfl rfl ?_
                exact kt
              refine OGo.callV X11 hx hZ (y := (⟨"com/example/oddhands/oddhands/sj/Move", "namesCards", "()Z"⟩ : MethodName)) (z := (⟨"com/example/oddhands/oddhands/sj/Move", "namesCards", "()Z"⟩ : MethodName)) hown (own_wd hw 4 rfl) (own_wd hw 5 rfl) (notFace_of_selects (args := #[]) (mvT hZ (own_wd hw 7 rfl))) (own_wd hw 7 rfl) (own_wd hw 6 rfl) (own_wd hw 2 rfl) (own_wd hw 8 rfl) (by decide) (rm1 l Z az hw [] w_STOP w_TAKE w_SWITCH h0 n0 Z0 S_Move_TAKE S_Move_SWITCH) (W := 0) (by decide) (by decide) E_w_STOP (g := (mkF m 98 #[.val (.int p0), .val (.int ((p0 &&& (2147483647 : Int32)) % (7 : Int32))), .val (.ref w_STOP), .val (.int (0 : Int32))] [(.ref w_STOP)])) rfl (by rw [hml]; rfl) (argsL := []) (rest := []) (lenOf pd_0_0 rfl) rfl (by show 2 * 0 + _ ≤ _; exact Nat.le_of_eq rfl) (hb hby at_98) rfl e11 (by decide) (by decide) ?_
              rintro _ T12 L12 X12 ⟨rfl, Nq12, e12⟩
              have N12 := Fr.app N0 Nq12
              show OGo _ _ _ _ _ _ _ (T12.setTop (mkF m 101 #[.val (.int p0), .val (.int ((p0 &&& (2147483647 : Int32)) % (7 : Int32))), .val (.ref w_STOP), .val (.int (0 : Int32))] [(.int (f1 w_STOP w_TAKE w_SWITCH))]))
              refine OGo.step (F' := T12.setTop (mkF m 102 #[.val (.int p0), .val (.int ((p0 &&& (2147483647 : Int32)) % (7 : Int32))), .val (.ref w_STOP), .val (.int (0 : Int32))] [(.int (0 : Int32)), (.int (f1 w_STOP w_TAKE w_SWITCH))])) (fun t kt => ?_) ?_
              · show Steps p.tables e below (T12.setTop (mkF m 101 #[.val (.int p0), .val (.int ((p0 &&& (2147483647 : Int32)) % (7 : Int32))), .val (.ref w_STOP), .val (.int (0 : Int32))] [(.int (f1 w_STOP w_TAKE w_SWITCH))])) t
                refine XS.iloadN X12.here hx rfl (hb hby at_101) rfl ?_
                exact kt
              by_cases hc102 : (f1 w_STOP w_TAKE w_SWITCH) = (0 : Int32)
              · refine OGo.step (F' := T12.setTop (mkF m 105 #[.val (.int p0), .val (.int ((p0 &&& (2147483647 : Int32)) % (7 : Int32))), .val (.ref w_STOP), .val (.int (0 : Int32))] [])) (fun t kt => ?_) ?_
                · show Steps p.tables e below (T12.setTop (mkF m 102 #[.val (.int p0), .val (.int ((p0 &&& (2147483647 : Int32)) % (7 : Int32))), .val (.ref w_STOP), .val (.int (0 : Int32))] [(.int (0 : Int32)), (.int (f1 w_STOP w_TAKE w_SWITCH))])) t
                  refine XS.icmpNo X12.here hx rfl (hb hby at_102) rfl (teq hc102).2 ?_
                  exact kt
                refine OGo.step (F' := T12.setTop (mkF m 110 #[.val (.int p0), .val (.int ((p0 &&& (2147483647 : Int32)) % (7 : Int32))), .val (.ref w_STOP), .val (.int (0 : Int32))] [(.int (1 : Int32))])) (fun t kt => ?_) ?_
                · show Steps p.tables e below (T12.setTop (mkF m 105 #[.val (.int p0), .val (.int ((p0 &&& (2147483647 : Int32)) % (7 : Int32))), .val (.ref w_STOP), .val (.int (0 : Int32))] [])) t
                  refine XS.iconst X12.here hx rfl (hb hby at_105) ?_
                  show Steps p.tables e below (T12.setTop (mkF m 106 #[.val (.int p0), .val (.int ((p0 &&& (2147483647 : Int32)) % (7 : Int32))), .val (.ref w_STOP), .val (.int (0 : Int32))] [(.int (1 : Int32))])) t
                  refine XS.goto X12.here hx rfl (pc0 := 106) (pc' := 110) rfl (hb hby at_106) (by decide) (by decide) ?_
                  exact kt
                refine OGo.retZ X12 hx hlk (t := .boolean) (z' := (1 : Int32)) hret (by simp) (hb hby at_110) rfl ?_ (by decide) (by decide)
                exact ⟨(by rw [f0, if_neg hc9, if_neg hc23, if_neg hc37, if_neg hc51, if_neg hc65, if_pos hc79, if_pos hc102]), N12, e12⟩
              · refine OGo.step (F' := T12.setTop (mkF m 109 #[.val (.int p0), .val (.int ((p0 &&& (2147483647 : Int32)) % (7 : Int32))), .val (.ref w_STOP), .val (.int (0 : Int32))] [])) (fun t kt => ?_) ?_
                · show Steps p.tables e below (T12.setTop (mkF m 102 #[.val (.int p0), .val (.int ((p0 &&& (2147483647 : Int32)) % (7 : Int32))), .val (.ref w_STOP), .val (.int (0 : Int32))] [(.int (0 : Int32)), (.int (f1 w_STOP w_TAKE w_SWITCH))])) t
                  refine XS.icmpYes X12.here hx rfl (pc0 := 102) (pc' := 109) rfl (hb hby at_102) rfl (feq hc102).2 (by decide) (by decide) ?_
                  exact kt
                refine OGo.step (F' := T12.setTop (mkF m 110 #[.val (.int p0), .val (.int ((p0 &&& (2147483647 : Int32)) % (7 : Int32))), .val (.ref w_STOP), .val (.int (0 : Int32))] [(.int (0 : Int32))])) (fun t kt => ?_) ?_
                · show Steps p.tables e below (T12.setTop (mkF m 109 #[.val (.int p0), .val (.int ((p0 &&& (2147483647 : Int32)) % (7 : Int32))), .val (.ref w_STOP), .val (.int (0 : Int32))] [])) t
                  refine XS.iconst X12.here hx rfl (hb hby at_109) ?_
                  exact kt
                refine OGo.retZ X12 hx hlk (t := .boolean) (z' := (0 : Int32)) hret (by simp) (hb hby at_110) rfl ?_ (by decide) (by decide)
                exact ⟨(by rw [f0, if_neg hc9, if_neg hc23, if_neg hc37, if_neg hc51, if_neg hc65, if_pos hc79, if_neg hc102]), N12, e12⟩
            · refine OGo.step (F' := s₁.setTop (mkF m 91 #[.val (.int p0), .val (.int ((p0 &&& (2147483647 : Int32)) % (7 : Int32))), .unset, .unset] [])) (fun t kt => ?_) ?_
              · show Steps p.tables e below (s₁.setTop (mkF m 79 #[.val (.int p0), .val (.int ((p0 &&& (2147483647 : Int32)) % (7 : Int32))), .unset, .unset] [(.int (5 : Int32)), (.int ((p0 &&& (2147483647 : Int32)) % (7 : Int32)))])) t
                refine XS.icmpYes X0.here hx rfl (pc0 := 79) (pc' := 91) rfl (hb hby at_79) rfl (feq hc79).2 (by decide) (by decide) ?_
                exact kt
              obtain ⟨T13, X13, e13, st13⟩ := getS2 X0 hx hZ hown (host := "") (Or.inl (own_wd hw 17 rfl)) Via.refl e0 S_Move_REVIVE (g := (mkF m 91 #[.val (.int p0), .val (.int ((p0 &&& (2147483647 : Int32)) % (7 : Int32))), .unset, .unset] [])) rfl (hb hby at_91)
              refine OGo.step st13 ?_
              show OGo _ _ _ _ _ _ _ (T13.setTop (mkF m 94 #[.val (.int p0), .val (.int ((p0 &&& (2147483647 : Int32)) % (7 : Int32))), .unset, .unset] [(.ref w_REVIVE)]))
              refine OGo.step (F' := T13.setTop (mkF m 98 #[.val (.int p0), .val (.int ((p0 &&& (2147483647 : Int32)) % (7 : Int32))), .val (.ref w_REVIVE), .val (.int (0 : Int32))] [(.ref w_REVIVE)])) (fun t kt => ?_) ?_
              · show Steps p.tables e below (T13.setTop (mkF m 94 #[.val (.int p0), .val (.int ((p0 &&& (2147483647 : Int32)) % (7 : Int32))), .unset, .unset] [(.ref w_REVIVE)])) t
                refine XS.astoreN X13.here hx rfl (hb hby at_94) rfl rfl (l' := #[.val (.int p0), .val (.int ((p0 &&& (2147483647 : Int32)) % (7 : Int32))), .val (.ref w_REVIVE), .unset]) rfl ?_
                show Steps p.tables e below (T13.setTop (mkF m 95 #[.val (.int p0), .val (.int ((p0 &&& (2147483647 : Int32)) % (7 : Int32))), .val (.ref w_REVIVE), .unset] [])) t
                refine XS.iconst X13.here hx rfl (hb hby at_95) ?_
                show Steps p.tables e below (T13.setTop (mkF m 96 #[.val (.int p0), .val (.int ((p0 &&& (2147483647 : Int32)) % (7 : Int32))), .val (.ref w_REVIVE), .unset] [(.int (0 : Int32))])) t
                refine XS.istoreN X13.here hx rfl (hb hby at_96) rfl (l' := #[.val (.int p0), .val (.int ((p0 &&& (2147483647 : Int32)) % (7 : Int32))), .val (.ref w_REVIVE), .val (.int (0 : Int32))]) rfl ?_
                show Steps p.tables e below (T13.setTop (mkF m 97 #[.val (.int p0), .val (.int ((p0 &&& (2147483647 : Int32)) % (7 : Int32))), .val (.ref w_REVIVE), .val (.int (0 : Int32))] [])) t
                refine XS.aloadN X13.here hx rfl (hb hby at_97) rfl rfl ?_
                exact kt
              refine OGo.callV X13 hx hZ (y := (⟨"com/example/oddhands/oddhands/sj/Move", "namesCards", "()Z"⟩ : MethodName)) (z := (⟨"com/example/oddhands/oddhands/sj/Move", "namesCards", "()Z"⟩ : MethodName)) hown (own_wd hw 4 rfl) (own_wd hw 5 rfl) (notFace_of_selects (args := #[]) (mvT hZ (own_wd hw 7 rfl))) (own_wd hw 7 rfl) (own_wd hw 6 rfl) (own_wd hw 2 rfl) (own_wd hw 8 rfl) (by decide) (rm1 l Z az hw [] w_REVIVE w_TAKE w_SWITCH h0 n0 Z0 S_Move_TAKE S_Move_SWITCH) (W := 0) (by decide) (by decide) E_w_REVIVE (g := (mkF m 98 #[.val (.int p0), .val (.int ((p0 &&& (2147483647 : Int32)) % (7 : Int32))), .val (.ref w_REVIVE), .val (.int (0 : Int32))] [(.ref w_REVIVE)])) rfl (by rw [hml]; rfl) (argsL := []) (rest := []) (lenOf pd_0_0 rfl) rfl (by show 2 * 0 + _ ≤ _; exact Nat.le_of_eq rfl) (hb hby at_98) rfl e13 (by decide) (by decide) ?_
              rintro _ T14 L14 X14 ⟨rfl, Nq14, e14⟩
              have N14 := Fr.app N0 Nq14
              show OGo _ _ _ _ _ _ _ (T14.setTop (mkF m 101 #[.val (.int p0), .val (.int ((p0 &&& (2147483647 : Int32)) % (7 : Int32))), .val (.ref w_REVIVE), .val (.int (0 : Int32))] [(.int (f1 w_REVIVE w_TAKE w_SWITCH))]))
              refine OGo.step (F' := T14.setTop (mkF m 102 #[.val (.int p0), .val (.int ((p0 &&& (2147483647 : Int32)) % (7 : Int32))), .val (.ref w_REVIVE), .val (.int (0 : Int32))] [(.int (0 : Int32)), (.int (f1 w_REVIVE w_TAKE w_SWITCH))])) (fun t kt => ?_) ?_
              · show Steps p.tables e below (T14.setTop (mkF m 101 #[.val (.int p0), .val (.int ((p0 &&& (2147483647 : Int32)) % (7 : Int32))), .val (.ref w_REVIVE), .val (.int (0 : Int32))] [(.int (f1 w_REVIVE w_TAKE w_SWITCH))])) t
                refine XS.iloadN X14.here hx rfl (hb hby at_101) rfl ?_
                exact kt
              by_cases hc102 : (f1 w_REVIVE w_TAKE w_SWITCH) = (0 : Int32)
              · refine OGo.step (F' := T14.setTop (mkF m 105 #[.val (.int p0), .val (.int ((p0 &&& (2147483647 : Int32)) % (7 : Int32))), .val (.ref w_REVIVE), .val (.int (0 : Int32))] [])) (fun t kt => ?_) ?_
                · show Steps p.tables e below (T14.setTop (mkF m 102 #[.val (.int p0), .val (.int ((p0 &&& (2147483647 : Int32)) % (7 : Int32))), .val (.ref w_REVIVE), .val (.int (0 : Int32))] [(.int (0 : Int32)), (.int (f1 w_REVIVE w_TAKE w_SWITCH))])) t
                  refine XS.icmpNo X14.here hx rfl (hb hby at_102) rfl (teq hc102).2 ?_
                  exact kt
                refine OGo.step (F' := T14.setTop (mkF m 110 #[.val (.int p0), .val (.int ((p0 &&& (2147483647 : Int32)) % (7 : Int32))), .val (.ref w_REVIVE), .val (.int (0 : Int32))] [(.int (1 : Int32))])) (fun t kt => ?_) ?_
                · show Steps p.tables e below (T14.setTop (mkF m 105 #[.val (.int p0), .val (.int ((p0 &&& (2147483647 : Int32)) % (7 : Int32))), .val (.ref w_REVIVE), .val (.int (0 : Int32))] [])) t
                  refine XS.iconst X14.here hx rfl (hb hby at_105) ?_
                  show Steps p.tables e below (T14.setTop (mkF m 106 #[.val (.int p0), .val (.int ((p0 &&& (2147483647 : Int32)) % (7 : Int32))), .val (.ref w_REVIVE), .val (.int (0 : Int32))] [(.int (1 : Int32))])) t
                  refine XS.goto X14.here hx rfl (pc0 := 106) (pc' := 110) rfl (hb hby at_106) (by decide) (by decide) ?_
                  exact kt
                refine OGo.retZ X14 hx hlk (t := .boolean) (z' := (1 : Int32)) hret (by simp) (hb hby at_110) rfl ?_ (by decide) (by decide)
                exact ⟨(by rw [f0, if_neg hc9, if_neg hc23, if_neg hc37, if_neg hc51, if_neg hc65, if_neg hc79, if_pos hc102]), N14, e14⟩
              · refine OGo.step (F' := T14.setTop (mkF m 109 #[.val (.int p0), .val (.int ((p0 &&& (2147483647 : Int32)) % (7 : Int32))), .val (.ref w_REVIVE), .val (.int (0 : Int32))] [])) (fun t kt => ?_) ?_
                · show Steps p.tables e below (T14.setTop (mkF m 102 #[.val (.int p0), .val (.int ((p0 &&& (2147483647 : Int32)) % (7 : Int32))), .val (.ref w_REVIVE), .val (.int (0 : Int32))] [(.int (0 : Int32)), (.int (f1 w_REVIVE w_TAKE w_SWITCH))])) t
                  refine XS.icmpYes X14.here hx rfl (pc0 := 102) (pc' := 109) rfl (hb hby at_102) rfl (feq hc102).2 (by decide) (by decide) ?_
                  exact kt
                refine OGo.step (F' := T14.setTop (mkF m 110 #[.val (.int p0), .val (.int ((p0 &&& (2147483647 : Int32)) % (7 : Int32))), .val (.ref w_REVIVE), .val (.int (0 : Int32))] [(.int (0 : Int32))])) (fun t kt => ?_) ?_
                · show Steps p.tables e below (T14.setTop (mkF m 109 #[.val (.int p0), .val (.int ((p0 &&& (2147483647 : Int32)) % (7 : Int32))), .val (.ref w_REVIVE), .val (.int (0 : Int32))] [])) t
                  refine XS.iconst X14.here hx rfl (hb hby at_109) ?_
                  exact kt
                refine OGo.retZ X14 hx hlk (t := .boolean) (z' := (0 : Int32)) hret (by simp) (hb hby at_110) rfl ?_ (by decide) (by decide)
                exact ⟨(by rw [f0, if_neg hc9, if_neg hc23, if_neg hc37, if_neg hc51, if_neg hc65, if_neg hc79, if_neg hc102]), N14, e14⟩
theorem own_law (p0 : Int32) (w_INSURE w_TAKE w_SWITCH w_END w_GO w_STOP w_REVIVE : Addr) (ne_INSURE_TAKE : w_INSURE ≠ w_TAKE) (ne_END_TAKE : w_END ≠ w_TAKE) (ne_GO_TAKE : w_GO ≠ w_TAKE) (ne_STOP_TAKE : w_STOP ≠ w_TAKE) (ne_REVIVE_TAKE : w_REVIVE ≠ w_TAKE) (ne_SWITCH_TAKE : w_SWITCH ≠ w_TAKE) (ne_INSURE_SWITCH : w_INSURE ≠ w_SWITCH) (ne_END_SWITCH : w_END ≠ w_SWITCH) (ne_GO_SWITCH : w_GO ≠ w_SWITCH) (ne_STOP_SWITCH : w_STOP ≠ w_SWITCH) (ne_REVIVE_SWITCH : w_REVIVE ≠ w_SWITCH) : f0 p0 w_INSURE w_TAKE w_SWITCH w_END w_GO w_STOP w_REVIVE = 1 := by
  have k (a b d : Addr) (h1 : a ≠ b) (h2 : a ≠ d) : f1 a b d = 0 := by rw [f1, if_neg h1, if_neg h2]
  have k1 (b d : Addr) : f1 b b d = 1 := by rw [f1, if_pos rfl]
  have k2 (b d : Addr) (h1 : d ≠ b) : f1 d b d = 1 := by rw [f1, if_neg h1, if_pos rfl]
  unfold f0
  simp only [k1, k2 _ _ ne_SWITCH_TAKE, k _ _ _ ne_INSURE_TAKE ne_INSURE_SWITCH, k _ _ _ ne_END_TAKE ne_END_SWITCH, k _ _ _ ne_GO_TAKE ne_GO_SWITCH, k _ _ _ ne_STOP_TAKE ne_STOP_SWITCH, k _ _ _ ne_REVIVE_TAKE ne_REVIVE_SWITCH]
  repeat' split
  all_goals first | rfl | (exfalso; revert ‹¬ _›; decide) | simp_all
set_option maxRecDepth 65536 in
set_option maxHeartbeats 40000000 in
theorem comes_1 {Post : Tables → Env → Array Value → State → Outcome → State → Prop} (hpost : ∀ tb e args s v u, (limb_1_1.after args s (.returned v) u = true ∧ limb_1_2.after args s (.returned v) u = true ∧ True) → FrameEnd s (.returned v) u (Jvm.fieldLocs frame_1_writes args s ++ Jvm.arrayLocs frame_1_arrays args s ++ Jvm.staticLocs frame_1_statics s) 0 0 → Post tb e args s (.returned v) u) :
    ArmFor flags0 classFile x code maxLocals ret World_1 tables_1 room_1 Calls_1 rest_1 Pre_1 Post := by
  intro l hfl _ _ p e ha hc hk s m args below hf hA hF happ hP
  obtain ⟨hcalls, hrest, hpre⟩ := hP
  obtain ⟨-, -, -, hnamed, -, -, -, hat⟩ := (Spec.applies_iff hf).mp happ
  obtain ⟨hg, hn⟩ := and_e (Cond.before_iff.mp (show (Jvm.Cond.and given_1 narrow_1).before args s = true from hpre))
  obtain ⟨gc, gr0⟩ := and_e hg
  have ga0 := gr0
  obtain ⟨w0, rfl⟩ : ∃ w0 : Value, args = #[w0] := by
    have hs : args.size = 1 := by simpa [Cond.value, given_1] using gc
    obtain ⟨L⟩ := args
    match L, hs with
    | [w0], _ => exact ⟨w0, rfl⟩
  have hw := fun d (hd : d ∈ tables_1) => atoms_spec (ws := Jvm.Cond.code x code maxLocals ret :: tables_1) hat d (List.mem_cons_of_mem _ hd)
  have hfit : Fit s := fun {y c} hc i hi => by
    obtain ⟨ha, rfl⟩ := Array.getElem?_eq_some_iff.mp hc
    have q := List.all_eq_true.mp ((Array.all_eq_true_iff_forall_mem.mp hF) _ (Array.getElem_mem ha)) i (List.mem_range.mpr hi)
    simpa [Array.getElem?_eq_getElem hi] using q
  obtain ⟨i0, ei0⟩ := is_v ga0
  obtain rfl : w0 = (.int i0) := Option.some.inj ei0
  obtain ⟨nc0, nr0⟩ := and_e hn
  obtain ⟨nc1, nr1⟩ := and_e nr0
  obtain ⟨nc2, nr2⟩ := and_e nr1
  obtain ⟨nc3, nr3⟩ := and_e nr2
  obtain ⟨nc4, nr4⟩ := and_e nr3
  obtain ⟨nc5, nr5⟩ := and_e nr4
  obtain ⟨nc6, nr6⟩ := and_e nr5
  obtain ⟨nc7, nr7⟩ := and_e nr6
  obtain ⟨nc8, nr8⟩ := and_e nr7
  obtain ⟨nc9, nr9⟩ := and_e nr8
  obtain ⟨nc10, nr10⟩ := and_e nr9
  obtain ⟨nc11, nr11⟩ := and_e nr10
  obtain ⟨nc12, nr12⟩ := and_e nr11
  have nc13 := nr12
  obtain ⟨w_INSURE, _, _, _, ev_w_INSURE, -⟩ := Cond.exactly_spec (Cond.before_iff.mpr nc0)
  have S_Move_INSURE : Sta s s.heap "com/example/oddhands/oddhands/sj/Move" "INSURE" "Lcom/example/oddhands/oddhands/sj/Move;" (.ref w_INSURE) := Sta.start ev_w_INSURE (Or.inr ⟨(own_wd hw 2 rfl), (own_wd hw 3 rfl)⟩)
  have E_w_INSURE : Exa s s.heap w_INSURE "com/example/oddhands/oddhands/sj/Move" := Exa.start ev_w_INSURE nc0
  obtain ⟨w_TAKE, _, _, _, ev_w_TAKE, -⟩ := Cond.exactly_spec (Cond.before_iff.mpr nc1)
  have S_Move_TAKE : Sta s s.heap "com/example/oddhands/oddhands/sj/Move" "TAKE" "Lcom/example/oddhands/oddhands/sj/Move;" (.ref w_TAKE) := Sta.start ev_w_TAKE (Or.inr ⟨(own_wd hw 2 rfl), (own_wd hw 10 rfl)⟩)
  have E_w_TAKE : Exa s s.heap w_TAKE "com/example/oddhands/oddhands/sj/Move" := Exa.start ev_w_TAKE nc1
  obtain ⟨w_SWITCH, _, _, _, ev_w_SWITCH, -⟩ := Cond.exactly_spec (Cond.before_iff.mpr nc4)
  have S_Move_SWITCH : Sta s s.heap "com/example/oddhands/oddhands/sj/Move" "SWITCH" "Lcom/example/oddhands/oddhands/sj/Move;" (.ref w_SWITCH) := Sta.start ev_w_SWITCH (Or.inr ⟨(own_wd hw 2 rfl), (own_wd hw 12 rfl)⟩)
  have E_w_SWITCH : Exa s s.heap w_SWITCH "com/example/oddhands/oddhands/sj/Move" := Exa.start ev_w_SWITCH nc4
  obtain ⟨w_END, _, _, _, ev_w_END, -⟩ := Cond.exactly_spec (Cond.before_iff.mpr nc6)
  have S_Move_END : Sta s s.heap "com/example/oddhands/oddhands/sj/Move" "END" "Lcom/example/oddhands/oddhands/sj/Move;" (.ref w_END) := Sta.start ev_w_END (Or.inr ⟨(own_wd hw 2 rfl), (own_wd hw 14 rfl)⟩)
  have E_w_END : Exa s s.heap w_END "com/example/oddhands/oddhands/sj/Move" := Exa.start ev_w_END nc6
  obtain ⟨w_STOP, _, _, _, ev_w_STOP, -⟩ := Cond.exactly_spec (Cond.before_iff.mpr nc8)
  have S_Move_STOP : Sta s s.heap "com/example/oddhands/oddhands/sj/Move" "STOP" "Lcom/example/oddhands/oddhands/sj/Move;" (.ref w_STOP) := Sta.start ev_w_STOP (Or.inr ⟨(own_wd hw 2 rfl), (own_wd hw 16 rfl)⟩)
  have E_w_STOP : Exa s s.heap w_STOP "com/example/oddhands/oddhands/sj/Move" := Exa.start ev_w_STOP nc8
  obtain ⟨w_REVIVE, _, _, _, ev_w_REVIVE, -⟩ := Cond.exactly_spec (Cond.before_iff.mpr nc10)
  have S_Move_REVIVE : Sta s s.heap "com/example/oddhands/oddhands/sj/Move" "REVIVE" "Lcom/example/oddhands/oddhands/sj/Move;" (.ref w_REVIVE) := Sta.start ev_w_REVIVE (Or.inr ⟨(own_wd hw 2 rfl), (own_wd hw 18 rfl)⟩)
  have E_w_REVIVE : Exa s s.heap w_REVIVE "com/example/oddhands/oddhands/sj/Move" := Exa.start ev_w_REVIVE nc10
  obtain ⟨w_GO, _, _, _, ev_w_GO, -⟩ := Cond.exactly_spec (Cond.before_iff.mpr nc12)
  have S_Move_GO : Sta s s.heap "com/example/oddhands/oddhands/sj/Move" "GO" "Lcom/example/oddhands/oddhands/sj/Move;" (.ref w_GO) := Sta.start ev_w_GO (Or.inr ⟨(own_wd hw 2 rfl), (own_wd hw 20 rfl)⟩)
  have E_w_GO : Exa s s.heap w_GO "com/example/oddhands/oddhands/sj/Move" := Exa.start ev_w_GO nc12
  have F_ordinal_w_INSURE : Fld s s.heap w_INSURE "java/lang/Enum" "ordinal" "I" (.int (0 : Int32)) := own_fld ev_w_INSURE nc2
  have F_ordinal_w_TAKE : Fld s s.heap w_TAKE "java/lang/Enum" "ordinal" "I" (.int (1 : Int32)) := own_fld ev_w_TAKE nc3
  have F_ordinal_w_SWITCH : Fld s s.heap w_SWITCH "java/lang/Enum" "ordinal" "I" (.int (2 : Int32)) := own_fld ev_w_SWITCH nc5
  have F_ordinal_w_END : Fld s s.heap w_END "java/lang/Enum" "ordinal" "I" (.int (3 : Int32)) := own_fld ev_w_END nc7
  have F_ordinal_w_STOP : Fld s s.heap w_STOP "java/lang/Enum" "ordinal" "I" (.int (5 : Int32)) := own_fld ev_w_STOP nc9
  have F_ordinal_w_REVIVE : Fld s s.heap w_REVIVE "java/lang/Enum" "ordinal" "I" (.int (6 : Int32)) := own_fld ev_w_REVIVE nc11
  have F_ordinal_w_GO : Fld s s.heap w_GO "java/lang/Enum" "ordinal" "I" (.int (4 : Int32)) := own_fld ev_w_GO nc13
  have ne_INSURE_TAKE : w_INSURE ≠ w_TAKE := F_ordinal_w_INSURE.ne F_ordinal_w_TAKE (by decide)
  have ne_END_TAKE : w_END ≠ w_TAKE := F_ordinal_w_END.ne F_ordinal_w_TAKE (by decide)
  have ne_GO_TAKE : w_GO ≠ w_TAKE := F_ordinal_w_GO.ne F_ordinal_w_TAKE (by decide)
  have ne_STOP_TAKE : w_STOP ≠ w_TAKE := F_ordinal_w_STOP.ne F_ordinal_w_TAKE (by decide)
  have ne_REVIVE_TAKE : w_REVIVE ≠ w_TAKE := F_ordinal_w_REVIVE.ne F_ordinal_w_TAKE (by decide)
  have ne_SWITCH_TAKE : w_SWITCH ≠ w_TAKE := F_ordinal_w_SWITCH.ne F_ordinal_w_TAKE (by decide)
  have ne_INSURE_SWITCH : w_INSURE ≠ w_SWITCH := F_ordinal_w_INSURE.ne F_ordinal_w_SWITCH (by decide)
  have ne_END_SWITCH : w_END ≠ w_SWITCH := F_ordinal_w_END.ne F_ordinal_w_SWITCH (by decide)
  have ne_GO_SWITCH : w_GO ≠ w_SWITCH := F_ordinal_w_GO.ne F_ordinal_w_SWITCH (by decide)
  have ne_STOP_SWITCH : w_STOP ≠ w_SWITCH := F_ordinal_w_STOP.ne F_ordinal_w_SWITCH (by decide)
  have ne_REVIVE_SWITCH : w_REVIVE ≠ w_SWITCH := F_ordinal_w_REVIVE.ne F_ordinal_w_SWITCH (by decide)
  obtain ⟨n, o, h1, h2, h3, _, L, rfl, ⟨hv, N, -⟩, hq⟩ := rm0 l s _ hw tables_1 i0 w_INSURE w_TAKE w_SWITCH w_END w_GO w_STOP w_REVIVE s.heap s.heap.size (Nat.le_refl _) S_Move_INSURE S_Move_TAKE S_Move_SWITCH E_w_INSURE E_w_TAKE E_w_SWITCH S_Move_END E_w_END S_Move_GO E_w_GO S_Move_STOP E_w_STOP S_Move_REVIVE E_w_REVIVE p e ha hc hk s m _ below hf ((Spec.applies_iff_loose hf).mp happ).1 ⟨rfl, State.Warmed39.refl s, rfl⟩ trivial
  rw [own_law _ _ _ _ _ _ _ _ ne_INSURE_TAKE ne_END_TAKE ne_GO_TAKE ne_STOP_TAKE ne_REVIVE_TAKE ne_SWITCH_TAKE ne_INSURE_SWITCH ne_END_SWITCH ne_GO_SWITCH ne_STOP_SWITCH ne_REVIVE_SWITCH] at hv
  subst hv
  refine ⟨n, _, h1, h2, h3, hpost _ _ _ _ _ _ ⟨Cond.after_iff.mpr rfl, Cond.after_iff.mpr (eq_i res_at (Term.int_eval (1)) rfl), trivial⟩ ⟨hq.1, hq.2.1, (hq.2.2.sift fun y hy => Or.inr (N y hy)).mono (by decide) (by decide)⟩⟩
theorem main_1_1 : Claimed_1_1 := comes_1 fun _ _ _ _ _ _ h hF => ⟨h.1, hF⟩
theorem main_1_2 : Claimed_1_2 := comes_1 fun _ _ _ _ _ _ h hF => ⟨h.2.1, hF⟩
end Jvm.Pilot.@@N@@
namespace Jvm.Pilot.@@N@@
open Jvm Jvm.ClassFile Sem Op Lib Jvm.Free Jvm.Stand Jvm.Pilot.@@N@@.Jvm.D
/-! MADE BY PROGRAM (witnessworld.py) out of the Statement's table words and the real class files: 12 classes; the members and pool entries that the words name. The judged class is class 1, her method 1. -/
namespace start1
open Jvm.ClassFile
def u (s : String) : CpInfo := .utf8 (stringToUtf16 s)
/-- a pool by its gaps: so many unusable entries, then the entry; so many at the end -/
def gap : Nat → List CpInfo → List CpInfo
  | 0, r => r
  | n + 1, r => .unusable :: gap n r
def poolList (es : List (Nat × CpInfo)) (last : Nat) : List CpInfo := es.foldr (fun e r => gap e.1 (e.2 :: r)) (gap last [])
def pool (es : List (Nat × CpInfo)) (last : Nat) : Array CpInfo := ⟨poolList es last⟩
def fileOf (pool : Array CpInfo) (this : Nat) (attrs : Array Attribute := #[]) (ms : Array MethodInfo := #[]) (fl : Nat := 33) (sup : Nat := 0) (ifs : Array Nat := #[]) (fds : Array FieldInfo := #[]) : ClassFile where
  minorVersion := 0
  majorVersion := 65
  constantPool := pool
  accessFlags := fl
  thisClass := this
  superClass := sup
  interfaces := ifs
  fields := fds
  methods := ms
  attributes := attrs
def plain (name : String) (sup : Option ClassId) : Class where
  name := name
  kind := .ordinary
  loader := none
  accessFlags := 33
  super := sup
  interfaces := #[]
  cf := none
  fields := #[]
  methods := #[]
  instanceTypes := #[]
  staticTypes := #[]
  resolved := #[]
  callSites := []
  init := .initialized
  statics := none
  mirror := none

def pool0 : Array CpInfo := pool [(5, u "<init>"), (0, u "()V"), (1, .class_ 10), (1, u "java/lang/Object")] 113

def k0m0 : Method := { name := "<init>", desc := "()V", sig := { parameters := [], returnType := none }, accessFlags := 1, code := none }
/-- java/lang/Object -/
def k0 : Class := { plain "java/lang/Object" none with
  accessFlags := 33
  interfaces := #[]
  cf := some (fileOf pool0 8 #[] #[{ accessFlags := 1, nameIndex := 5, descriptorIndex := 6, attributes := #[] }] 33 0 #[] #[])
  fields := #[]
  methods := #[k0m0]
  instanceTypes := #[]
  staticTypes := #[]
  resolved := Array.replicate 124 none
  statics := none }

def pool1 : Array CpInfo := pool [(2, .class_ 4), (1, u "java/lang/Object"), (0, u "<init>"), (0, u "()V"), (0, .integer 2147483647), (0, .fieldref 9 10), (0, .class_ 11), (0, .nameAndType 12 13), (0, u "com/example/oddhands/oddhands/sj/Move"), (0, u "INSURE"), (0, u "Lcom/example/oddhands/oddhands/sj/Move;"), (0, .fieldref 9 15), (0, .nameAndType 16 13), (0, u "TAKE"), (0, .fieldref 9 18), (0, .nameAndType 19 13), (0, u "SWITCH"), (0, .fieldref 9 21), (0, .nameAndType 22 13), (0, u "END"), (0, .fieldref 9 24), (0, .nameAndType 25 13), (0, u "GO"), (0, .fieldref 9 27), (0, .nameAndType 28 13), (0, u "STOP"), (0, .fieldref 9 30), (0, .nameAndType 31 13), (0, u "REVIVE"), (0, .methodref 9 33), (0, .nameAndType 34 35), (0, u "namesCards"), (0, u "()Z"), (0, .class_ 37), (0, u "com/example/oddhands/oddhands/sj/MoveNamesCardsPinLaw"), (2, u "law"), (0, u "(I)Z")] 3

def k1m0 : Method := { name := "<init>", desc := "()V", sig := { parameters := [], returnType := none }, accessFlags := 1, code := none }
def k1c1 : Code := { maxStack := 2, maxLocals := 4, code := code, exceptionTable := #[], attributes := #[] }
def k1m1 : Method := { name := "law", desc := "(I)Z", sig := { parameters := [.int], returnType := some .boolean }, accessFlags := 9, code := some k1c1 }
/-- com/example/oddhands/oddhands/sj/MoveNamesCardsPinLaw -/
def k1 : Class := { plain "com/example/oddhands/oddhands/sj/MoveNamesCardsPinLaw" (some 0) with
  accessFlags := 49
  interfaces := #[]
  cf := some (fileOf pool1 36 #[] #[{ accessFlags := 1, nameIndex := 5, descriptorIndex := 6, attributes := #[] }, { accessFlags := 9, nameIndex := 40, descriptorIndex := 41, attributes := #[] }] 49 2 #[] #[])
  fields := #[]
  methods := #[k1m0, k1m1]
  instanceTypes := #[]
  staticTypes := #[]
  resolved := Array.replicate 45 none
  statics := none }

def pool2 : Array CpInfo := pool [(1, .class_ 2), (0, u "java/lang/constant/Constable"), (0, .class_ 4), (0, u "java/lang/Object")] 6

/-- java/lang/constant/Constable -/
def k2 : Class := { plain "java/lang/constant/Constable" (some 0) with
  accessFlags := 1537
  interfaces := #[]
  cf := some (fileOf pool2 1 #[] #[] 1537 3 #[] #[])
  fields := #[]
  methods := #[]
  instanceTypes := #[]
  staticTypes := #[]
  resolved := Array.replicate 11 none
  statics := none }

def pool3 : Array CpInfo := pool [(1, .class_ 2), (0, u "java/lang/Comparable"), (0, .class_ 4), (0, u "java/lang/Object")] 7

/-- java/lang/Comparable -/
def k3 : Class := { plain "java/lang/Comparable" (some 0) with
  accessFlags := 1537
  interfaces := #[]
  cf := some (fileOf pool3 1 #[] #[] 1537 3 #[] #[])
  fields := #[]
  methods := #[]
  instanceTypes := #[]
  staticTypes := #[]
  resolved := Array.replicate 12 none
  statics := none }

def pool4 : Array CpInfo := pool [(1, .class_ 2), (0, u "java/io/Serializable"), (0, .class_ 4), (0, u "java/lang/Object")] 2

/-- java/io/Serializable -/
def k4 : Class := { plain "java/io/Serializable" (some 0) with
  accessFlags := 1537
  interfaces := #[]
  cf := some (fileOf pool4 1 #[] #[] 1537 3 #[] #[])
  fields := #[]
  methods := #[]
  instanceTypes := #[]
  staticTypes := #[]
  resolved := Array.replicate 7 none
  statics := none }

def pool5 : Array CpInfo := pool [(2, .class_ 4), (1, u "java/lang/Enum"), (0, u "name"), (0, u "Ljava/lang/String;"), (2, u "ordinal"), (0, u "I"), (1, .class_ 14), (1, u "java/lang/Object"), (4, u "hash"), (86, .class_ 108), (1, u "java/lang/Enum$EnumDesc"), (2, .class_ 112), (0, u "java/lang/constant/Constable"), (0, .class_ 114), (0, u "java/lang/Comparable"), (0, .class_ 116), (0, u "java/io/Serializable")] 87

/-- java/lang/Enum -/
def k5 : Class := { plain "java/lang/Enum" (some 0) with
  accessFlags := 1057
  interfaces := #[2, 3, 4]
  cf := some (fileOf pool5 2 #[.nestMembers #[106]] #[] 1057 12 #[111, 113, 115] #[{ accessFlags := 18, nameIndex := 5, descriptorIndex := 6, attributes := #[] }, { accessFlags := 18, nameIndex := 9, descriptorIndex := 10, attributes := #[] }, { accessFlags := 2, nameIndex := 19, descriptorIndex := 10, attributes := #[] }])
  fields := #[{ name := "name", type := (.object "java/lang/String"), accessFlags := 18, slot := 0, constantValue := 0 }, { name := "ordinal", type := .int, accessFlags := 18, slot := 1, constantValue := 0 }, { name := "hash", type := .int, accessFlags := 2, slot := 2, constantValue := 0 }]
  methods := #[]
  instanceTypes := #[(.object "java/lang/String"), .int, .int]
  staticTypes := #[]
  resolved := Array.replicate 204 none
  statics := none }

def pool6 : Array CpInfo := pool [(1, .class_ 2), (0, u "com/example/oddhands/oddhands/sj/Move"), (2, u "INSURE"), (0, u "Lcom/example/oddhands/oddhands/sj/Move;"), (0, .fieldref 1 8), (0, .nameAndType 9 6), (0, u "TAKE"), (0, .fieldref 1 11), (0, .nameAndType 12 6), (0, u "SWITCH"), (2, u "END"), (2, u "GO"), (2, u "STOP"), (2, u "REVIVE"), (2, u "$VALUES"), (0, u "[Lcom/example/oddhands/oddhands/sj/Move;"), (6, .class_ 37), (1, u "java/lang/Enum"), (8, u "cost"), (0, u "I"), (70, u "namesCards"), (0, u "()Z")] 28

def k6c0 : Code := { maxStack := 2, maxLocals := 1, code := prog_12_method_7_code, exceptionTable := #[], attributes := #[] }
def k6m0 : Method := { name := "namesCards", desc := "()Z", sig := { parameters := [], returnType := some .boolean }, accessFlags := 0, code := some k6c0 }
/-- com/example/oddhands/oddhands/sj/Move -/
def k6 : Class := { plain "com/example/oddhands/oddhands/sj/Move" (some 5) with
  accessFlags := 16432
  interfaces := #[]
  cf := some (fileOf pool6 1 #[] #[{ accessFlags := 0, nameIndex := 118, descriptorIndex := 119, attributes := #[] }] 16432 35 #[] #[{ accessFlags := 16409, nameIndex := 5, descriptorIndex := 6, attributes := #[] }, { accessFlags := 16409, nameIndex := 9, descriptorIndex := 6, attributes := #[] }, { accessFlags := 16409, nameIndex := 12, descriptorIndex := 6, attributes := #[] }, { accessFlags := 16409, nameIndex := 15, descriptorIndex := 6, attributes := #[] }, { accessFlags := 16409, nameIndex := 18, descriptorIndex := 6, attributes := #[] }, { accessFlags := 16409, nameIndex := 21, descriptorIndex := 6, attributes := #[] }, { accessFlags := 16409, nameIndex := 24, descriptorIndex := 6, attributes := #[] }, { accessFlags := 18, nameIndex := 46, descriptorIndex := 47, attributes := #[] }, { accessFlags := 4122, nameIndex := 27, descriptorIndex := 28, attributes := #[] }])
  fields := #[{ name := "INSURE", type := (.object "com/example/oddhands/oddhands/sj/Move"), accessFlags := 16409, slot := 0, constantValue := 0 }, { name := "TAKE", type := (.object "com/example/oddhands/oddhands/sj/Move"), accessFlags := 16409, slot := 1, constantValue := 0 }, { name := "SWITCH", type := (.object "com/example/oddhands/oddhands/sj/Move"), accessFlags := 16409, slot := 2, constantValue := 0 }, { name := "END", type := (.object "com/example/oddhands/oddhands/sj/Move"), accessFlags := 16409, slot := 3, constantValue := 0 }, { name := "GO", type := (.object "com/example/oddhands/oddhands/sj/Move"), accessFlags := 16409, slot := 4, constantValue := 0 }, { name := "STOP", type := (.object "com/example/oddhands/oddhands/sj/Move"), accessFlags := 16409, slot := 5, constantValue := 0 }, { name := "REVIVE", type := (.object "com/example/oddhands/oddhands/sj/Move"), accessFlags := 16409, slot := 6, constantValue := 0 }, { name := "cost", type := .int, accessFlags := 18, slot := 3, constantValue := 0 }, { name := "$VALUES", type := (.array (.object "com/example/oddhands/oddhands/sj/Move")), accessFlags := 4122, slot := 7, constantValue := 0 }]
  methods := #[k6m0]
  instanceTypes := #[(.object "java/lang/String"), .int, .int, .int]
  staticTypes := #[(.object "com/example/oddhands/oddhands/sj/Move"), (.object "com/example/oddhands/oddhands/sj/Move"), (.object "com/example/oddhands/oddhands/sj/Move"), (.object "com/example/oddhands/oddhands/sj/Move"), (.object "com/example/oddhands/oddhands/sj/Move"), (.object "com/example/oddhands/oddhands/sj/Move"), (.object "com/example/oddhands/oddhands/sj/Move"), (.array (.object "com/example/oddhands/oddhands/sj/Move"))]
  resolved := Array.replicate 148 none
  statics := some 0 }

def pool7 : Array CpInfo := pool [(1, u "java/lang/Cloneable"), (0, .class_ 1), (0, u "java/lang/Object"), (0, .class_ 3)] 3

/-- java/lang/Cloneable -/
def k7 : Class := { plain "java/lang/Cloneable" (some 0) with
  accessFlags := 1537
  interfaces := #[]
  cf := some (fileOf pool7 2 #[] #[] 1537 4 #[] #[])
  fields := #[]
  methods := #[]
  instanceTypes := #[]
  staticTypes := #[]
  resolved := Array.replicate 8 none
  statics := none }

/-- the primitive byte -/
def k8 : Class := { plain "byte" none with kind := .primitive 'B', accessFlags := 0x411 }
/-- [B -/
def k9 : Class := { plain "[B" (some 0) with kind := .array 8 .byte, interfaces := #[7, 4], accessFlags := 1041 }

/-- the primitive int -/
def k10 : Class := { plain "int" none with kind := .primitive 'I', accessFlags := 0x411 }
/-- [I -/
def k11 : Class := { plain "[I" (some 0) with kind := .array 10 .int, interfaces := #[7, 4], accessFlags := 1041 }

def heap : Heap := #[{ cls := 6, slots := #[.ref 1, .ref 2, .ref 3, .ref 4, .ref 5, .ref 6, .ref 7, .null], vm := .statics 6 },
  { cls := 6, slots := #[.null, .int 0, .int 0, .int 0], vm := .none },
  { cls := 6, slots := #[.null, .int 1, .int 0, .int 0], vm := .none },
  { cls := 6, slots := #[.null, .int 2, .int 0, .int 0], vm := .none },
  { cls := 6, slots := #[.null, .int 3, .int 0, .int 0], vm := .none },
  { cls := 6, slots := #[.null, .int 4, .int 0, .int 0], vm := .none },
  { cls := 6, slots := #[.null, .int 5, .int 0, .int 0], vm := .none },
  { cls := 6, slots := #[.null, .int 6, .int 0, .int 0], vm := .none }]
def classes : Array Class := #[k0, k1, k2, k3, k4, k5, k6, k7, k8, k9, k10, k11]
def interned : List (Array UInt16 × Addr) := []
def slotsUsed : Nat := 36
def theMethod : MethodId := ⟨1, 1⟩
def args0 : Array Value := #[.int 5]
def aboutOver (below : List Frame) : State where
  vm := { classes := classes, interned := interned.toArray }
  heap := heap
  slotsUsed := slotsUsed
  threads := #[{ frames := .invoking theMethod args0 :: below }]
def below0 : List Frame := [.native { method := ⟨0, 0⟩, args := #[] }]
def about1 : State := aboutOver below0
def p0 : Program := .bare "" "" ""
def e0 : Env := launch0.env 0 0 0
theorem w_frames : about1.frames = Frame.invoking theMethod args0 :: below0 := rfl
set_option maxRecDepth 65536 in
theorem w_args : argsFit about1.vm theMethod args0 = true := by decide +kernel
set_option maxRecDepth 65536 in
theorem w_heap : heapFits about1 = true := by decide +kernel
set_option maxRecDepth 65536 in
theorem w_runnable : about1.curStatus? = some .runnable := by decide +kernel
set_option maxRecDepth 65536 in
theorem w_alone : about1.alone = true := by decide +kernel
set_option maxRecDepth 65536 in
theorem w_named : about1.methodNamed? x = some theMethod := by decide +kernel
set_option maxRecDepth 65536 in
theorem w_hears : about1.hears theMethod below0 = true := by decide +kernel
set_option maxRecDepth 65536 in
theorem w_ripe : about1.ripe theMethod args0 below0 = true := by decide +kernel
theorem w_running : about1.status = .running := rfl
set_option maxRecDepth 65536 in
theorem w_room : about1.hasRoom e0.platform room_1 = true :=
  launch0.hasRoom_least _ room_1 (by decide +kernel) (by decide +kernel) (by decide +kernel) (by decide +kernel) (by decide +kernel) (by decide +kernel)
theorem allAtoms_all (ts : List Jvm.Cond) (a : Array Jvm.Value) (st : Jvm.State) : (allAtoms ts).before a st = ts.all (fun c => c.before a st) := by
  induction ts with
  | nil => rfl
  | cons c t ih =>
    show (Jvm.Cond.and c (allAtoms t)).before a st = _
    rw [Jvm.Cond.before_and, ih, List.all_cons]
def words1 : List Jvm.Cond := Jvm.Cond.code x code maxLocals ret :: tables_1
/-- a 'code' word, met by the world's own term for the bytes: nothing is compared byte by byte -/
theorem code_word {y : MethodName} {bytes : ByteArray} {mx : Nat} {rt : Option FieldType} {a : Array Value} {s : State} {m : MethodId} {meth : Method} {c : Code} (h1 : s.methodNamed? y = some m) (h2 : s.vm.method? m = some meth) (h3 : meth.code = some c) (h4 : c.code = bytes)
    (h5 : (c.maxLocals == mx && c.exceptionTable.isEmpty && decide (c.maxStack ≤ mostOperands) && decide (meth.sig.returnType = rt) && !meth.locks && decide (parseMethodDescriptor y.desc = some meth.sig)) = true) : (Jvm.Cond.code y bytes mx rt).before a s = true := by
  simp only [Bool.and_eq_true, beq_iff_eq, Bool.not_eq_true', decide_eq_true_eq] at h5
  obtain ⟨⟨⟨⟨⟨g1, g2⟩, g3⟩, g4⟩, g5⟩, g6⟩ := h5
  simp [Cond.before, Cond.holds, Cond.value, h1, h2, h3, h4, g1, g2, g3, g4, g5, g6]
def isCode : Jvm.Cond → Bool
  | .code _ _ _ _ => true
  | _ => false
theorem all_split {L : List Jvm.Cond} {P : Jvm.Cond → Bool} (h1 : L.all (fun c => isCode c || P c) = true) (h2 : ∀ c ∈ L.filter isCode, P c = true) : L.all P = true := by
  refine List.all_eq_true.mpr fun c hc => ?_
  have h := List.all_eq_true.mp h1 c hc
  rcases Bool.eq_false_or_eq_true (isCode c) with hi | hi
  · exact h2 c (List.mem_filter.mpr ⟨hc, hi⟩)
  · simpa [hi] using h
set_option maxRecDepth 65536 in
theorem w_c0 : (Jvm.Cond.code x code maxLocals ret).before args0 about1 = true := code_word (m := ⟨1, 1⟩) (meth := k1m1) (c := k1c1) (by decide +kernel) rfl rfl rfl (by decide +kernel)
set_option maxRecDepth 65536 in
theorem w_c1 : (Jvm.Cond.code ({ cls := "com/example/oddhands/oddhands/sj/Move", name := "namesCards", desc := "()Z" } : Jvm.MethodName) prog_12_method_7_code (1 : Nat) (Option.some Jvm.ClassFile.FieldType.boolean)).before args0 about1 = true := code_word (m := ⟨6, 0⟩) (meth := k6m0) (c := k6c0) (by decide +kernel) rfl rfl rfl (by decide +kernel)
def codes1 : List Jvm.Cond := [Jvm.Cond.code x code maxLocals ret, Jvm.Cond.code ({ cls := "com/example/oddhands/oddhands/sj/Move", name := "namesCards", desc := "()Z" } : Jvm.MethodName) prog_12_method_7_code (1 : Nat) (Option.some Jvm.ClassFile.FieldType.boolean)]
set_option maxRecDepth 65536 in
theorem codes_eq : words1.filter isCode = codes1 := rfl
theorem w_codes : ∀ c ∈ words1.filter isCode, c.before args0 about1 = true := by
  rw [codes_eq]
  intro c hc
  simp only [codes1, List.mem_cons, List.not_mem_nil, or_false] at hc
  rcases hc with rfl | rfl
  · exact w_c0
  · exact w_c1
set_option maxRecDepth 65536 in
theorem w_t1 : words1.all (fun c => isCode c || c.before args0 about1) = true := by decide +kernel
theorem w_tables : (allAtoms (Jvm.Cond.code x code maxLocals ret :: tables_1)).before args0 about1 = true := by
  rw [allAtoms_all]
  show words1.all (fun c => c.before args0 about1) = true
  refine all_split ?_ w_codes
  rw [w_t1]
set_option maxRecDepth 65536 in
theorem w_case : (Jvm.Cond.and given_1 narrow_1).before args0 about1 = true := by decide +kernel
theorem w_applies : (headSpec (Jvm.Cond.code x code maxLocals ret :: tables_1) room_1).applies x e0.platform about1 = true :=
  (Spec.applies_iff w_frames).mpr ⟨w_running, w_runnable, w_alone, w_named, w_hears, w_ripe, w_room, w_tables⟩
theorem atStart : AtStart classFile x code maxLocals ret World_1 tables_1 room_1 Calls_1 rest_1 Pre_1 launch0 p0 e0 about1 theMethod args0 below0 :=
  ⟨lists_1, trivial, launch0.admits_env _ _ _, launch0.least_env, fairChoices_fair.cas, fairChoices_fair.clock, w_frames, w_args, w_heap, w_applies, trivial, trivial, w_case⟩
end start1
theorem witness_1 : WitnessClaimed_1 := ⟨start1.p0, start1.e0, start1.about1, start1.theMethod, start1.args0, start1.below0, start1.atStart⟩
end Jvm.Pilot.@@N@@
