import JvmDerived
import JvmDerived.Pilot.@@N@@Statement
import JvmDerived.Pilot.@@N@@Code
set_option linter.unusedVariables false
set_option linter.unusedSimpArgs false
namespace Jvm.Pilot.@@N@@
open Jvm Jvm.ClassFile Sem Op Lib Jvm.Free Jvm.Stand Jvm.LawKit Jvm.RoadKit Bundle Jvm.Pilot.@@N@@.Jvm.D
section OwnKit
variable {p : Program} {l : Launch} {e : Env} {R : Room} {s : State} {m : MethodId} {args : Array Value} {below : List Frame} {meth : Method} {c : Code} {T : State} {locs : List Loc} {cells slots : Nat} {Z : State} {a0 : Array Value} {h : Heap} {Q : Option Value → Heap → List Loc → Prop} {kc ks : Nat}
/-- from the state F the run comes to its return, with what Q says -/
def OGo (p : Program) (e : Env) (below : List Frame) (s : State) (Q : Option Value → Heap → List Loc → Prop) (kc ks : Nat) (F : State) : Prop :=
  ∃ (s₂ : State) (o : Outcome), Steps p.tables e below F s₂ ∧ s₂.status = .running ∧ Ended s₂ below o ∧ ∃ v L, o = .returned v ∧ Q v s₂.heap L ∧ FrameEnd s o s₂ L kc ks
theorem OGo.step {F F' : State} (k : ∀ t, Steps p.tables e below F' t → Steps p.tables e below F t) (g : OGo p e below s Q kc ks F') : OGo p e below s Q kc ks F := by
  obtain ⟨s₂, o, h, r⟩ := g
  exact ⟨s₂, o, k _ h, r⟩
theorem OGo.retOut (X : Stand p l e R s m args below meth c T locs cells slots) (hx : p.tables.exec = Jvm.exec) (hlk : meth.locks = false) {pc : Nat} {Ls : Array Slot} {w : Value} {t : FieldType} {i : Instr} {rest : List Value} (hret : meth.sig.returnType = some t) (hn : narrow t w = w)
    (hi : (i = .ireturn ∧ (t = .int ∨ t = .boolean ∨ t = .byte ∨ t = .char ∨ t = .short) ∧ ∃ z, w = .int z) ∨ (i = .lreturn ∧ t = .long ∧ ∃ z, w = .long z) ∨ (i = .dreturn ∧ t = .double ∧ ∃ z, w = .double z) ∨ (i = .freturn ∧ t = .float ∧ ∃ z, w = .float z) ∨ (i = .areturn ∧ t.isReference = true ∧ w.isRef = true))
    (hd : decode c.code pc = .ok (i, 1)) (hQ : Q (some w) T.heap locs) (hc : cells ≤ kc) (hs : slots ≤ ks) : OGo p e below s Q kc ks (T.setTop (mkF m pc Ls (w :: rest))) := by
  obtain ⟨fs, hr, hrun, hended, hW, hsame⟩ := X.leave (v := some w) (fun h => by rw [hret] at h; cases h) hlk
  exact ⟨_, _, Jvm.RoadKit.retOut X hx hret hn hi hd hr, hrun, hended, _, _, rfl, hQ, ⟨_, rfl⟩, hW, hsame.mono hc hs⟩
theorem OGo.retI (X : Stand p l e R s m args below meth c T locs cells slots) (hx : p.tables.exec = Jvm.exec) (hlk : meth.locks = false) {pc : Nat} {Ls : Array Slot} {z : Int32} {rest : List Value} (hret : meth.sig.returnType = some .int) (hd : decode c.code pc = .ok (.ireturn, 1)) (hQ : Q (some (.int z)) T.heap locs) (hc : cells ≤ kc) (hs : slots ≤ ks) :
    OGo p e below s Q kc ks (T.setTop (mkF m pc Ls (.int z :: rest))) := OGo.retOut X hx hlk hret rfl (Or.inl ⟨rfl, Or.inl rfl, _, rfl⟩) hd hQ hc hs
theorem OGo.retJ (X : Stand p l e R s m args below meth c T locs cells slots) (hx : p.tables.exec = Jvm.exec) (hlk : meth.locks = false) {pc : Nat} {Ls : Array Slot} {z : Int64} {rest : List Value} (hret : meth.sig.returnType = some .long) (hd : decode c.code pc = .ok (.lreturn, 1)) (hQ : Q (some (.long z)) T.heap locs) (hc : cells ≤ kc) (hs : slots ≤ ks) :
    OGo p e below s Q kc ks (T.setTop (mkF m pc Ls (.long z :: rest))) := OGo.retOut X hx hlk hret rfl (Or.inr (Or.inl ⟨rfl, rfl, _, rfl⟩)) hd hQ hc hs
theorem OGo.retA (X : Stand p l e R s m args below meth c T locs cells slots) (hx : p.tables.exec = Jvm.exec) (hlk : meth.locks = false) {pc : Nat} {Ls : Array Slot} {w : Value} {t : FieldType} {rest : List Value} (hret : meth.sig.returnType = some t) (ht : t.isReference = true) (hw : w.isRef = true) (hn : narrow t w = w) (hd : decode c.code pc = .ok (.areturn, 1)) (hQ : Q (some w) T.heap locs) (hc : cells ≤ kc) (hs : slots ≤ ks) :
    OGo p e below s Q kc ks (T.setTop (mkF m pc Ls (w :: rest))) := OGo.retOut X hx hlk hret hn (Or.inr (Or.inr (Or.inr (Or.inr ⟨rfl, ht, hw⟩)))) hd hQ hc hs
theorem OGo.retZ (X : Stand p l e R s m args below meth c T locs cells slots) (hx : p.tables.exec = Jvm.exec) (hlk : meth.locks = false) {pc : Nat} {Ls : Array Slot} {z z' : Int32} {t : FieldType} {rest : List Value} (hret : meth.sig.returnType = some t) (ht : t = .boolean ∨ t = .byte ∨ t = .char ∨ t = .short) (hd : decode c.code pc = .ok (.ireturn, 1)) (hz : nar t z = z') (hQ : Q (some (.int z')) T.heap locs) (hc : cells ≤ kc) (hs : slots ≤ ks) :
    OGo p e below s Q kc ks (T.setTop (mkF m pc Ls (.int z :: rest))) := by
  subst hz
  obtain ⟨fs, hr, hrun, hended, hW, hsame⟩ := X.leave (v := some (.int (nar t z))) (fun h => by rw [hret] at h; cases h) hlk
  exact ⟨_, _, Jvm.RoadKit.retN X hx hret ht hd hr, hrun, hended, _, _, rfl, hQ, ⟨_, rfl⟩, hW, hsame.mono hc hs⟩
theorem OGo.retV (X : Stand p l e R s m args below meth c T locs cells slots) (hx : p.tables.exec = Jvm.exec) (hlk : meth.locks = false) {pc : Nat} {Ls : Array Slot} (hret : meth.sig.returnType = none) (hd : decode c.code pc = .ok (.return_, 1)) (hQ : Q none T.heap locs) (hc : cells ≤ kc) (hs : slots ≤ ks) :
    OGo p e below s Q kc ks (T.setTop (mkF m pc Ls [])) := by
  obtain ⟨fs, hr, hrun, hended, hW, hsame⟩ := X.leave (v := none) (fun _ => rfl) hlk
  exact ⟨_, _, X.returnOut hx hret hd hr, hrun, hended, _, _, rfl, hQ, ⟨_, rfl⟩, hW, hsame.mono hc hs⟩
/-- a body's contract -/
abbrev OCtr (l : Launch) (Z : State) (y : MethodName) (bytes : ByteArray) (maxL : Nat) (ret : Option FieldType) (ws : List Jvm.Cond) (rm : Room) (as' : Array Value) (h0 : Heap) (Q : Option Value → Heap → List Loc → Prop) : Prop :=
  MetFree l y (head1 (Jvm.Cond.code y bytes maxL ret :: ws) rm) (fun a U => a = as' ∧ Z.Warmed39 U.vm ∧ U.heap = h0) (fun _ _ _ _ _ => True) (fun _ U o U' => ∃ v L, o = .returned v ∧ Q v U'.heap L ∧ FrameEnd U o U' L rm.cells rm.slots)
theorem OCtr.of {y : MethodName} {bytes : ByteArray} {maxL : Nat} {ret : Option FieldType} {ws : List Jvm.Cond} {rm : Room} {as' : Array Value} (hp : plainFor y = true)
    (k : ∀ (p : Program) (e : Env) (s : State) (m : MethodId) (below : List Frame) (meth : Method) (c : Code) (s₁ : State), Stand p l e rm s m as' below meth c s₁ [] 0 0 → p.tables.exec = Jvm.exec → meth.locks = false → Z.Warmed39 s.vm → s.vm.findClass y.cls = some m.cls → meth.name = y.name → c.code = bytes → c.maxLocals = maxL → meth.sig.returnType = ret → s₁.heap = h →
      OGo p e below s Q rm.cells rm.slots (s₁.setTop (entryFrame m as' maxL))) : OCtr l Z y bytes maxL ret ws rm as' h Q := by
  refine MetFree.of_bodySF hp hisR ?_
  intro p e s m args below meth c s₁ Bd hml0 hP hK
  obtain ⟨rfl, hZ, hh⟩ := hP
  exact k p e s m below meth c s₁ (Stand.of_body Bd) Bd.exec Bd.notSynchronized hZ (findClass_of_methodNamed Bd.named) (name_of_methodNamed Bd.named Bd.method).1 Bd.bytes hml0 Bd.returns (by rw [← hh, Bd.state]; rfl)
/-- it returns w, and the heap is as it was -/
def OPure (w : Option Value) (h0 : Heap) (n0 : Nat) : Option Value → Heap → List Loc → Prop := fun v h L => v = w ∧ Fr n0 L ∧ h = h0
theorem OGo.callS (X : Stand p l e R s m args below meth c T locs cells slots) (hx : p.tables.exec = Jvm.exec) (hZ : Z.Warmed39 s.vm) {own : String} {index : Nat} {y : MethodName} {bytes : ByteArray} {maxL : Nat} {ret : Option FieldType} (hown : s.vm.findClass own = some m.cls)
    (wl : (Jvm.Cond.methodLink own index y).before a0 Z = true) (wst : (Jvm.Cond.static y).before a0 Z = true) (wi : (Jvm.Cond.initialized y.cls).before a0 Z = true) (wc : (Jvm.Cond.code y bytes maxL ret).before a0 Z = true) (hy : y.cls ≠ "java/lang/invoke/MethodHandle" ∧ y.cls ≠ "java/lang/invoke/VarHandle")
    {rm : Room} {as' : Array Value} {Q' : Option Value → Heap → List Loc → Prop} (hM : OCtr l Z y bytes maxL ret [] rm as' h Q') {W : Nat} (hf : rm.frames + 1 ≤ R.frames) (hl : W + (maxL + 11) + rm.locals ≤ R.locals)
    {g : JFrame} (hg : g.method = m) (hsize : g.locals.size = c.maxLocals) {argsL rest : List Value} (hlen : ∀ sig, parseMethodDescriptor y.desc = some sig → argsL.length = sig.parameters.length) (hstack : g.stack = argsL.reverse ++ rest) (hW : 2 * g.monitorRoom + (rest.map fun v => v.category).sum ≤ W) (hdg : decode c.code g.pc = .ok (.invokestatic index, 3))
    (ha : argsL.toArray = as') (e0 : T.heap = h) (hc : cells + rm.cells ≤ R.cells) (hs : slots + rm.slots ≤ R.slots)
    (k : ∀ (v : Option Value) (T' : State) (L' : List Loc), Stand p l e R s m args below meth c T' (locs ++ L') (cells + rm.cells) (slots + rm.slots) → Q' v T'.heap L' → OGo p e below s Q kc ks (T'.setTop { g with pc := g.pc + 3, stack := v.toList ++ rest })) : OGo p e below s Q kc ks (T.setTop g) := by
  obtain ⟨v, _, ⟨T', L', k', n'⟩, -, X', ⟨Lc, hQ, l', y', z'⟩, st⟩ := Jvm.LawKit.callS X hx hown (mvT hZ wl) (mvT hZ wst) (mvT hZ wi) (mvT hZ wc) hy (backOf (W := W) hM hZ wc wi hf hl) hg hsize hlen hstack hW hdg (fun _ _ => ⟨ha, e0, hc, hs⟩)
  dsimp only [Pt.U, Pt.locs, Pt.cells, Pt.slots] at X' l' y' z' st hQ
  subst l' y' z'
  exact OGo.step st (k v T' Lc X' hQ)
theorem OGo.callV (X : Stand p l e R s m args below meth c T locs cells slots) (hx : p.tables.exec = Jvm.exec) (hZ : Z.Warmed39 s.vm) {own C : String} {index : Nat} {y z : MethodName} {bytes : ByteArray} {maxL : Nat} {ret : Option FieldType} (hown : s.vm.findClass own = some m.cls)
    (wl : (Jvm.Cond.methodLink own index y).before a0 Z = true) (wd : (Jvm.Cond.declares y).before a0 Z = true) (hnf : NotFace s y) (wsel : (Jvm.Cond.selects C y z).before a0 Z = true) (win : (Jvm.Cond.instanceMethod z).before a0 Z = true) (wi : (Jvm.Cond.initialized z.cls).before a0 Z = true) (wc : (Jvm.Cond.code z bytes maxL ret).before a0 Z = true) (hy : y.cls ≠ "java/lang/invoke/MethodHandle" ∧ y.cls ≠ "java/lang/invoke/VarHandle")
    {rm : Room} {as' : Array Value} {Q' : Option Value → Heap → List Loc → Prop} (hM : OCtr l Z z bytes maxL ret [] rm as' h Q') {W : Nat} (hf : rm.frames + 1 ≤ R.frames) (hl : W + (maxL + 11) + rm.locals ≤ R.locals) {b : Addr} (E : Exa Z h b C)
    {g : JFrame} (hg : g.method = m) (hsize : g.locals.size = c.maxLocals) {argsL rest : List Value} (hlen : ∀ sig, parseMethodDescriptor y.desc = some sig → argsL.length = sig.parameters.length) (hstack : g.stack = argsL.reverse ++ .ref b :: rest) (hW : 2 * g.monitorRoom + (rest.map fun v => v.category).sum ≤ W) (hdg : decode c.code g.pc = .ok (.invokevirtual index, 3))
    (ha : (.ref b :: argsL).toArray = as') (e0 : T.heap = h) (hc : cells + rm.cells ≤ R.cells) (hs : slots + rm.slots ≤ R.slots)
    (k : ∀ (v : Option Value) (T' : State) (L' : List Loc), Stand p l e R s m args below meth c T' (locs ++ L') (cells + rm.cells) (slots + rm.slots) → Q' v T'.heap L' → OGo p e below s Q kc ks (T'.setTop { g with pc := g.pc + 3, stack := v.toList ++ rest })) : OGo p e below s Q kc ks (T.setTop g) := by
  obtain ⟨cq, kq, q1, q2, q3⟩ := isOf hZ e0 E
  obtain ⟨v, _, ⟨T', L', k', n'⟩, -, X', ⟨Lc, hQ, l', y', z'⟩, st⟩ := X.virtualBack hx hown (mvT hZ wl) (mvT hZ wd) hnf (mvT hZ wsel) (mvT hZ win) hy (backOf (W := W) hM hZ wc wi hf hl) q1 q3 hg hsize (Steps.refl _) hlen hstack hW hdg (fun _ _ => ⟨ha, e0, hc, hs⟩)
  dsimp only [Pt.U, Pt.locs, Pt.cells, Pt.slots] at X' l' y' z' st hQ
  subst l' y' z'
  exact OGo.step (fun t q => st.trans q) (k v T' Lc X' hQ)
theorem OGo.callC (X : Stand p l e R s m args below meth c T locs cells slots) (hx : p.tables.exec = Jvm.exec) (hZ : Z.Warmed39 s.vm) {own : String} {index : Nat} {y : MethodName} {bytes : ByteArray} {maxL : Nat} (hy1 : y.name = "<init>") (hown : s.vm.findClass own = some m.cls)
    (wl : (Jvm.Cond.methodLink own index y).before a0 Z = true) (win : (Jvm.Cond.instanceMethod y).before a0 Z = true) (wi : (Jvm.Cond.initialized y.cls).before a0 Z = true) (wc : (Jvm.Cond.code y bytes maxL none).before a0 Z = true) (hy : y.cls ≠ "java/lang/invoke/MethodHandle" ∧ y.cls ≠ "java/lang/invoke/VarHandle")
    {rm : Room} {as' : Array Value} {Q' : Option Value → Heap → List Loc → Prop} (hM : OCtr l Z y bytes maxL none [] rm as' h Q') {W : Nat} (hf : rm.frames + 1 ≤ R.frames) (hl : W + (maxL + 11) + rm.locals ≤ R.locals) {b : Addr}
    {g : JFrame} (hg : g.method = m) (hsize : g.locals.size = c.maxLocals) {argsL rest : List Value} (hlen : ∀ sig, parseMethodDescriptor y.desc = some sig → argsL.length = sig.parameters.length) (hstack : g.stack = argsL.reverse ++ .ref b :: rest) (hW : 2 * g.monitorRoom + (rest.map fun v => v.category).sum ≤ W) (hdg : decode c.code g.pc = .ok (.invokespecial index, 3))
    (ha : (.ref b :: argsL).toArray = as') (e0 : T.heap = h) (hc : cells + rm.cells ≤ R.cells) (hs : slots + rm.slots ≤ R.slots)
    (k : ∀ (v : Option Value) (T' : State) (L' : List Loc), Stand p l e R s m args below meth c T' (locs ++ L') (cells + rm.cells) (slots + rm.slots) → Q' v T'.heap L' → OGo p e below s Q kc ks (T'.setTop { g with pc := g.pc + 3, stack := v.toList ++ rest })) : OGo p e below s Q kc ks (T.setTop g) := by
  obtain ⟨v, _, ⟨T', L', k', n'⟩, -, X', ⟨Lc, hQ, l', y', z'⟩, st⟩ := X.specialBack hx hy1 hown (mvT hZ wl) (mvT hZ win) (mvT hZ wc) hy (backOf (W := W) hM hZ wc wi hf hl) hg hsize (Steps.refl _) hlen hstack hW hdg (fun _ _ => ⟨ha, e0, hc, hs⟩)
  dsimp only [Pt.U, Pt.locs, Pt.cells, Pt.slots] at X' l' y' z' st hQ
  subst l' y' z'
  exact OGo.step (fun t q => st.trans q) (k v T' Lc X' hQ)
theorem own_wd (hw : ∀ d ∈ tables_1, d.before a0 Z = true) (i : Nat) {d : Jvm.Cond} (q : tables_1[i]? = some d) : d.before a0 Z = true := hw _ (List.mem_of_getElem? q)
theorem own_narc (x : Int32) : nar .char (x.toUInt32.toUInt16.toUInt32.toInt32) = x.toUInt32.toUInt16.toUInt32.toInt32 := by
  show x.toUInt32.toUInt16.toUInt32.toInt32.toUInt32.toUInt16.toUInt32.toInt32 = _
  simp only [UInt32.toUInt32_toInt32, UInt16.toUInt16_toUInt32]
theorem own_obj {a : Addr} {C : String} (F : Exa Z h a C) : ∃ cell : Cell, h[a]? = some cell ∧ cell.vm.isStatics = false := by
  obtain ⟨cell, _, h1, -, -, h4, -⟩ := F; exact ⟨cell, h1, h4⟩
theorem own_stakeep {h' : Heap} {ws : List Addr} {C n d : String} {v : Value} (F : Sta Z h C n d v) (K : Keep h h' ws) (q : ∀ x ∈ ws, ∃ cell : Cell, h[x]? = some cell ∧ cell.vm.isStatics = false) : Sta Z h' C n d v := by
  obtain ⟨cf, i, k, f, st, cell, h1, h2, h3, h4, h5, h6, h7⟩ := F
  refine ⟨cf, i, k, f, st, cell, h1, h2, h3, h4, K.2.1 _ _ h5 fun hm => ?_, h6, h7⟩
  obtain ⟨c', g1, g2⟩ := q _ hm
  cases g1.symm.trans h5
  rw [h6] at g2; cases g2
end OwnKit
/-! body 1: com/example/cadmus/cadmus/xdm/XmlChars.isChar:(I)Z -/
theorem d1_0 : decode prog_193_method_2_code 0 = .ok (.iload_n 0, 1) := by decide +kernel
theorem d1_1 : decode prog_193_method_2_code 1 = .ok (.bipush 9, 2) := by decide +kernel
theorem d1_3 : decode prog_193_method_2_code 3 = .ok (.if_icmp .eq 51, 3) := by decide +kernel
theorem d1_6 : decode prog_193_method_2_code 6 = .ok (.iload_n 0, 1) := by decide +kernel
theorem d1_7 : decode prog_193_method_2_code 7 = .ok (.bipush 10, 2) := by decide +kernel
theorem d1_9 : decode prog_193_method_2_code 9 = .ok (.if_icmp .eq 45, 3) := by decide +kernel
theorem d1_12 : decode prog_193_method_2_code 12 = .ok (.iload_n 0, 1) := by decide +kernel
theorem d1_13 : decode prog_193_method_2_code 13 = .ok (.bipush 13, 2) := by decide +kernel
theorem d1_15 : decode prog_193_method_2_code 15 = .ok (.if_icmp .eq 39, 3) := by decide +kernel
theorem d1_18 : decode prog_193_method_2_code 18 = .ok (.iload_n 0, 1) := by decide +kernel
theorem d1_19 : decode prog_193_method_2_code 19 = .ok (.bipush 32, 2) := by decide +kernel
theorem d1_21 : decode prog_193_method_2_code 21 = .ok (.if_icmp .lt 9, 3) := by decide +kernel
theorem d1_24 : decode prog_193_method_2_code 24 = .ok (.iload_n 0, 1) := by decide +kernel
theorem d1_25 : decode prog_193_method_2_code 25 = .ok (.ldc 7, 2) := by decide +kernel
theorem d1_27 : decode prog_193_method_2_code 27 = .ok (.if_icmp .le 27, 3) := by decide +kernel
theorem d1_30 : decode prog_193_method_2_code 30 = .ok (.iload_n 0, 1) := by decide +kernel
theorem d1_31 : decode prog_193_method_2_code 31 = .ok (.ldc 8, 2) := by decide +kernel
theorem d1_33 : decode prog_193_method_2_code 33 = .ok (.if_icmp .lt 9, 3) := by decide +kernel
theorem d1_36 : decode prog_193_method_2_code 36 = .ok (.iload_n 0, 1) := by decide +kernel
theorem d1_37 : decode prog_193_method_2_code 37 = .ok (.ldc 9, 2) := by decide +kernel
theorem d1_39 : decode prog_193_method_2_code 39 = .ok (.if_icmp .le 15, 3) := by decide +kernel
theorem d1_42 : decode prog_193_method_2_code 42 = .ok (.iload_n 0, 1) := by decide +kernel
theorem d1_43 : decode prog_193_method_2_code 43 = .ok (.ldc 10, 2) := by decide +kernel
theorem d1_45 : decode prog_193_method_2_code 45 = .ok (.if_icmp .lt 13, 3) := by decide +kernel
theorem d1_48 : decode prog_193_method_2_code 48 = .ok (.iload_n 0, 1) := by decide +kernel
theorem d1_49 : decode prog_193_method_2_code 49 = .ok (.ldc 11, 2) := by decide +kernel
theorem d1_51 : decode prog_193_method_2_code 51 = .ok (.if_icmp .gt 7, 3) := by decide +kernel
theorem d1_54 : decode prog_193_method_2_code 54 = .ok (.iconst 1, 1) := by decide +kernel
theorem d1_55 : decode prog_193_method_2_code 55 = .ok (.goto 4, 3) := by decide +kernel
theorem d1_58 : decode prog_193_method_2_code 58 = .ok (.iconst 0, 1) := by decide +kernel
theorem d1_59 : decode prog_193_method_2_code 59 = .ok (.ireturn, 1) := by decide +kernel
theorem pn_1 : plainName "com/example/cadmus/cadmus/xdm/XmlChars" = true := by first | (simp [plainName, overriddenIn]; done) | decide +kernel
theorem ef_1 (m : MethodId) (x0 : Int32) : entryFrame m #[(.int x0)] 1 = mkF m 0 #[.val (.int x0)] [] := by first | (simp [entryFrame, mkF, argsToLocals, Value.category]; done) | rfl
def f1 (p1 : Int32) : Int32 :=
  if p1 = (9 : Int32) then (1 : Int32)
  else if p1 = (10 : Int32) then (1 : Int32)
    else if p1 = (13 : Int32) then (1 : Int32)
      else if p1 < (32 : Int32) then (if p1 < (57344 : Int32) then (if p1 < (65536 : Int32) then (0 : Int32)
            else if (1114111 : Int32) < p1 then (0 : Int32)
              else (1 : Int32))
          else if (65533 : Int32) < p1 then (if p1 < (65536 : Int32) then (0 : Int32)
              else if (1114111 : Int32) < p1 then (0 : Int32)
                else (1 : Int32))
            else (1 : Int32))
        else if (55295 : Int32) < p1 then (if p1 < (57344 : Int32) then (if p1 < (65536 : Int32) then (0 : Int32)
              else if (1114111 : Int32) < p1 then (0 : Int32)
                else (1 : Int32))
            else if (65533 : Int32) < p1 then (if p1 < (65536 : Int32) then (0 : Int32)
                else if (1114111 : Int32) < p1 then (0 : Int32)
                  else (1 : Int32))
              else (1 : Int32))
          else (1 : Int32)
theorem fb1 (p1 : Int32) : nar .boolean (f1 p1) = (f1 p1) := by
  unfold f1
  repeat' split
  all_goals first | rfl | decide
set_option maxRecDepth 65536 in
set_option maxHeartbeats 40000000 in
theorem rm1 (l : Launch) (Z : State) (az : Array Value) (hw : ∀ d ∈ tables_1, d.before az Z = true) (ws : List Jvm.Cond) (p1 : Int32) (h0 : Heap) (n0 : Nat) (Z0 : n0 ≤ h0.size) :
    OCtr l Z (⟨"com/example/cadmus/cadmus/xdm/XmlChars", "isChar", "(I)Z"⟩ : MethodName) prog_193_method_2_code 1 (some .boolean) ws ({ frames := 0, cells := 0, slots := 0, locals := 0 } : Room) #[(.int p1)] h0 (OPure (some (.int (f1 p1))) h0 n0) := by
  refine OCtr.of (plainFor_of_name pn_1) ?_
  intro p e s m below meth c s₁ X0 hx hlk hZ hown0 hnm hby hml0 hret e0
  have hown : s.vm.findClass "com/example/cadmus/cadmus/xdm/XmlChars" = some m.cls := hown0
  have hml : c.maxLocals = 1 := hml0
  have N0 := Fr.nil n0
  refine OGo.step (fun t k => castTop (ef_1 m p1) k) ?_
  refine OGo.step (F' := s₁.setTop (mkF m 3 #[.val (.int p1)] [(.int (9 : Int32)), (.int p1)])) (fun t kt => ?_) ?_
  · show Steps p.tables e below (s₁.setTop (mkF m 0 #[.val (.int p1)] [])) t
    refine XS.iloadN X0.here hx rfl (hb hby d1_0) rfl ?_
    show Steps p.tables e below (s₁.setTop (mkF m 1 #[.val (.int p1)] [(.int p1)])) t
    refine XS.bipush X0.here hx rfl (hb hby d1_1) ?_
    exact kt
  by_cases hc3 : p1 = (9 : Int32)
  · refine OGo.step (F' := s₁.setTop (mkF m 54 #[.val (.int p1)] [])) (fun t kt => ?_) ?_
    · show Steps p.tables e below (s₁.setTop (mkF m 3 #[.val (.int p1)] [(.int (9 : Int32)), (.int p1)])) t
      refine XS.icmpYes X0.here hx rfl (pc0 := 3) (pc' := 54) rfl (hb hby d1_3) rfl (teq hc3).1 (by decide) (by decide) ?_
      exact kt
    refine OGo.step (F' := s₁.setTop (mkF m 59 #[.val (.int p1)] [(.int (1 : Int32))])) (fun t kt => ?_) ?_
    · show Steps p.tables e below (s₁.setTop (mkF m 54 #[.val (.int p1)] [])) t
      refine XS.iconst X0.here hx rfl (hb hby d1_54) ?_
      show Steps p.tables e below (s₁.setTop (mkF m 55 #[.val (.int p1)] [(.int (1 : Int32))])) t
      refine XS.goto X0.here hx rfl (pc0 := 55) (pc' := 59) rfl (hb hby d1_55) (by decide) (by decide) ?_
      exact kt
    refine OGo.retZ X0 hx hlk (t := .boolean) (z' := (1 : Int32)) hret (by simp) (hb hby d1_59) rfl ?_ (by decide) (by decide)
    exact ⟨(by rw [f1, if_pos hc3]), N0, e0⟩
  · refine OGo.step (F' := s₁.setTop (mkF m 6 #[.val (.int p1)] [])) (fun t kt => ?_) ?_
    · show Steps p.tables e below (s₁.setTop (mkF m 3 #[.val (.int p1)] [(.int (9 : Int32)), (.int p1)])) t
      refine XS.icmpNo X0.here hx rfl (hb hby d1_3) rfl (feq hc3).1 ?_
      exact kt
    refine OGo.step (F' := s₁.setTop (mkF m 9 #[.val (.int p1)] [(.int (10 : Int32)), (.int p1)])) (fun t kt => ?_) ?_
    · show Steps p.tables e below (s₁.setTop (mkF m 6 #[.val (.int p1)] [])) t
      refine XS.iloadN X0.here hx rfl (hb hby d1_6) rfl ?_
      show Steps p.tables e below (s₁.setTop (mkF m 7 #[.val (.int p1)] [(.int p1)])) t
      refine XS.bipush X0.here hx rfl (hb hby d1_7) ?_
      exact kt
    by_cases hc9 : p1 = (10 : Int32)
    · refine OGo.step (F' := s₁.setTop (mkF m 54 #[.val (.int p1)] [])) (fun t kt => ?_) ?_
      · show Steps p.tables e below (s₁.setTop (mkF m 9 #[.val (.int p1)] [(.int (10 : Int32)), (.int p1)])) t
        refine XS.icmpYes X0.here hx rfl (pc0 := 9) (pc' := 54) rfl (hb hby d1_9) rfl (teq hc9).1 (by decide) (by decide) ?_
        exact kt
      refine OGo.step (F' := s₁.setTop (mkF m 59 #[.val (.int p1)] [(.int (1 : Int32))])) (fun t kt => ?_) ?_
      · show Steps p.tables e below (s₁.setTop (mkF m 54 #[.val (.int p1)] [])) t
        refine XS.iconst X0.here hx rfl (hb hby d1_54) ?_
        show Steps p.tables e below (s₁.setTop (mkF m 55 #[.val (.int p1)] [(.int (1 : Int32))])) t
        refine XS.goto X0.here hx rfl (pc0 := 55) (pc' := 59) rfl (hb hby d1_55) (by decide) (by decide) ?_
        exact kt
      refine OGo.retZ X0 hx hlk (t := .boolean) (z' := (1 : Int32)) hret (by simp) (hb hby d1_59) rfl ?_ (by decide) (by decide)
      exact ⟨(by rw [f1, if_neg hc3, if_pos hc9]), N0, e0⟩
    · refine OGo.step (F' := s₁.setTop (mkF m 12 #[.val (.int p1)] [])) (fun t kt => ?_) ?_
      · show Steps p.tables e below (s₁.setTop (mkF m 9 #[.val (.int p1)] [(.int (10 : Int32)), (.int p1)])) t
        refine XS.icmpNo X0.here hx rfl (hb hby d1_9) rfl (feq hc9).1 ?_
        exact kt
      refine OGo.step (F' := s₁.setTop (mkF m 15 #[.val (.int p1)] [(.int (13 : Int32)), (.int p1)])) (fun t kt => ?_) ?_
      · show Steps p.tables e below (s₁.setTop (mkF m 12 #[.val (.int p1)] [])) t
        refine XS.iloadN X0.here hx rfl (hb hby d1_12) rfl ?_
        show Steps p.tables e below (s₁.setTop (mkF m 13 #[.val (.int p1)] [(.int p1)])) t
        refine XS.bipush X0.here hx rfl (hb hby d1_13) ?_
        exact kt
      by_cases hc15 : p1 = (13 : Int32)
      · refine OGo.step (F' := s₁.setTop (mkF m 54 #[.val (.int p1)] [])) (fun t kt => ?_) ?_
        · show Steps p.tables e below (s₁.setTop (mkF m 15 #[.val (.int p1)] [(.int (13 : Int32)), (.int p1)])) t
          refine XS.icmpYes X0.here hx rfl (pc0 := 15) (pc' := 54) rfl (hb hby d1_15) rfl (teq hc15).1 (by decide) (by decide) ?_
          exact kt
        refine OGo.step (F' := s₁.setTop (mkF m 59 #[.val (.int p1)] [(.int (1 : Int32))])) (fun t kt => ?_) ?_
        · show Steps p.tables e below (s₁.setTop (mkF m 54 #[.val (.int p1)] [])) t
          refine XS.iconst X0.here hx rfl (hb hby d1_54) ?_
          show Steps p.tables e below (s₁.setTop (mkF m 55 #[.val (.int p1)] [(.int (1 : Int32))])) t
          refine XS.goto X0.here hx rfl (pc0 := 55) (pc' := 59) rfl (hb hby d1_55) (by decide) (by decide) ?_
          exact kt
        refine OGo.retZ X0 hx hlk (t := .boolean) (z' := (1 : Int32)) hret (by simp) (hb hby d1_59) rfl ?_ (by decide) (by decide)
        exact ⟨(by rw [f1, if_neg hc3, if_neg hc9, if_pos hc15]), N0, e0⟩
      · refine OGo.step (F' := s₁.setTop (mkF m 18 #[.val (.int p1)] [])) (fun t kt => ?_) ?_
        · show Steps p.tables e below (s₁.setTop (mkF m 15 #[.val (.int p1)] [(.int (13 : Int32)), (.int p1)])) t
          refine XS.icmpNo X0.here hx rfl (hb hby d1_15) rfl (feq hc15).1 ?_
          exact kt
        refine OGo.step (F' := s₁.setTop (mkF m 21 #[.val (.int p1)] [(.int (32 : Int32)), (.int p1)])) (fun t kt => ?_) ?_
        · show Steps p.tables e below (s₁.setTop (mkF m 18 #[.val (.int p1)] [])) t
          refine XS.iloadN X0.here hx rfl (hb hby d1_18) rfl ?_
          show Steps p.tables e below (s₁.setTop (mkF m 19 #[.val (.int p1)] [(.int p1)])) t
          refine XS.bipush X0.here hx rfl (hb hby d1_19) ?_
          exact kt
        by_cases hc21 : p1 < (32 : Int32)
        · refine OGo.step (F' := s₁.setTop (mkF m 30 #[.val (.int p1)] [])) (fun t kt => ?_) ?_
          · show Steps p.tables e below (s₁.setTop (mkF m 21 #[.val (.int p1)] [(.int (32 : Int32)), (.int p1)])) t
            refine XS.icmpYes X0.here hx rfl (pc0 := 21) (pc' := 30) rfl (hb hby d1_21) rfl (tlt hc21).1 (by decide) (by decide) ?_
            exact kt
          refine OGo.step (F' := s₁.setTop (mkF m 33 #[.val (.int p1)] [(.int (57344 : Int32)), (.int p1)])) (fun t kt => ?_) ?_
          · show Steps p.tables e below (s₁.setTop (mkF m 30 #[.val (.int p1)] [])) t
            refine XS.iloadN X0.here hx rfl (hb hby d1_30) rfl ?_
            show Steps p.tables e below (s₁.setTop (mkF m 31 #[.val (.int p1)] [(.int p1)])) t
            refine X0.ldcInt hx hown (mvT hZ (own_wd hw 15 rfl)) (g := (mkF m 31 #[.val (.int p1)] [(.int p1)])) rfl (hb hby d1_31) _ ?_
            exact kt
          by_cases hc33 : p1 < (57344 : Int32)
          · refine OGo.step (F' := s₁.setTop (mkF m 42 #[.val (.int p1)] [])) (fun t kt => ?_) ?_
            · show Steps p.tables e below (s₁.setTop (mkF m 33 #[.val (.int p1)] [(.int (57344 : Int32)), (.int p1)])) t
              refine XS.icmpYes X0.here hx rfl (pc0 := 33) (pc' := 42) rfl (hb hby d1_33) rfl (tlt hc33).1 (by decide) (by decide) ?_
              exact kt
            refine OGo.step (F' := s₁.setTop (mkF m 45 #[.val (.int p1)] [(.int (65536 : Int32)), (.int p1)])) (fun t kt => ?_) ?_
            · show Steps p.tables e below (s₁.setTop (mkF m 42 #[.val (.int p1)] [])) t
              refine XS.iloadN X0.here hx rfl (hb hby d1_42) rfl ?_
              show Steps p.tables e below (s₁.setTop (mkF m 43 #[.val (.int p1)] [(.int p1)])) t
              refine X0.ldcInt hx hown (mvT hZ (own_wd hw 16 rfl)) (g := (mkF m 43 #[.val (.int p1)] [(.int p1)])) rfl (hb hby d1_43) _ ?_
              exact kt
            by_cases hc45 : p1 < (65536 : Int32)
            · refine OGo.step (F' := s₁.setTop (mkF m 58 #[.val (.int p1)] [])) (fun t kt => ?_) ?_
              · show Steps p.tables e below (s₁.setTop (mkF m 45 #[.val (.int p1)] [(.int (65536 : Int32)), (.int p1)])) t
                refine XS.icmpYes X0.here hx rfl (pc0 := 45) (pc' := 58) rfl (hb hby d1_45) rfl (tlt hc45).1 (by decide) (by decide) ?_
                exact kt
              refine OGo.step (F' := s₁.setTop (mkF m 59 #[.val (.int p1)] [(.int (0 : Int32))])) (fun t kt => ?_) ?_
              · show Steps p.tables e below (s₁.setTop (mkF m 58 #[.val (.int p1)] [])) t
                refine XS.iconst X0.here hx rfl (hb hby d1_58) ?_
                exact kt
              refine OGo.retZ X0 hx hlk (t := .boolean) (z' := (0 : Int32)) hret (by simp) (hb hby d1_59) rfl ?_ (by decide) (by decide)
              exact ⟨(by rw [f1, if_neg hc3, if_neg hc9, if_neg hc15, if_pos hc21, if_pos hc33, if_pos hc45]), N0, e0⟩
            · refine OGo.step (F' := s₁.setTop (mkF m 48 #[.val (.int p1)] [])) (fun t kt => ?_) ?_
              · show Steps p.tables e below (s₁.setTop (mkF m 45 #[.val (.int p1)] [(.int (65536 : Int32)), (.int p1)])) t
                refine XS.icmpNo X0.here hx rfl (hb hby d1_45) rfl (flt hc45).1 ?_
                exact kt
              refine OGo.step (F' := s₁.setTop (mkF m 51 #[.val (.int p1)] [(.int (1114111 : Int32)), (.int p1)])) (fun t kt => ?_) ?_
              · show Steps p.tables e below (s₁.setTop (mkF m 48 #[.val (.int p1)] [])) t
                refine XS.iloadN X0.here hx rfl (hb hby d1_48) rfl ?_
                show Steps p.tables e below (s₁.setTop (mkF m 49 #[.val (.int p1)] [(.int p1)])) t
                refine X0.ldcInt hx hown (mvT hZ (own_wd hw 24 rfl)) (g := (mkF m 49 #[.val (.int p1)] [(.int p1)])) rfl (hb hby d1_49) _ ?_
                exact kt
              by_cases hc51 : (1114111 : Int32) < p1
              · refine OGo.step (F' := s₁.setTop (mkF m 58 #[.val (.int p1)] [])) (fun t kt => ?_) ?_
                · show Steps p.tables e below (s₁.setTop (mkF m 51 #[.val (.int p1)] [(.int (1114111 : Int32)), (.int p1)])) t
                  refine XS.icmpYes X0.here hx rfl (pc0 := 51) (pc' := 58) rfl (hb hby d1_51) rfl (tlt hc51).2.2.1 (by decide) (by decide) ?_
                  exact kt
                refine OGo.step (F' := s₁.setTop (mkF m 59 #[.val (.int p1)] [(.int (0 : Int32))])) (fun t kt => ?_) ?_
                · show Steps p.tables e below (s₁.setTop (mkF m 58 #[.val (.int p1)] [])) t
                  refine XS.iconst X0.here hx rfl (hb hby d1_58) ?_
                  exact kt
                refine OGo.retZ X0 hx hlk (t := .boolean) (z' := (0 : Int32)) hret (by simp) (hb hby d1_59) rfl ?_ (by decide) (by decide)
                exact ⟨(by rw [f1, if_neg hc3, if_neg hc9, if_neg hc15, if_pos hc21, if_pos hc33, if_neg hc45, if_pos hc51]), N0, e0⟩
              · refine OGo.step (F' := s₁.setTop (mkF m 54 #[.val (.int p1)] [])) (fun t kt => ?_) ?_
                · show Steps p.tables e below (s₁.setTop (mkF m 51 #[.val (.int p1)] [(.int (1114111 : Int32)), (.int p1)])) t
                  refine XS.icmpNo X0.here hx rfl (hb hby d1_51) rfl (flt hc51).2.2.1 ?_
                  exact kt
                refine OGo.step (F' := s₁.setTop (mkF m 59 #[.val (.int p1)] [(.int (1 : Int32))])) (fun t kt => ?_) ?_
                · show Steps p.tables e below (s₁.setTop (mkF m 54 #[.val (.int p1)] [])) t
                  refine XS.iconst X0.here hx rfl (hb hby d1_54) ?_
                  show Steps p.tables e below (s₁.setTop (mkF m 55 #[.val (.int p1)] [(.int (1 : Int32))])) t
                  refine XS.goto X0.here hx rfl (pc0 := 55) (pc' := 59) rfl (hb hby d1_55) (by decide) (by decide) ?_
                  exact kt
                refine OGo.retZ X0 hx hlk (t := .boolean) (z' := (1 : Int32)) hret (by simp) (hb hby d1_59) rfl ?_ (by decide) (by decide)
                exact ⟨(by rw [f1, if_neg hc3, if_neg hc9, if_neg hc15, if_pos hc21, if_pos hc33, if_neg hc45, if_neg hc51]), N0, e0⟩
          · refine OGo.step (F' := s₁.setTop (mkF m 36 #[.val (.int p1)] [])) (fun t kt => ?_) ?_
            · show Steps p.tables e below (s₁.setTop (mkF m 33 #[.val (.int p1)] [(.int (57344 : Int32)), (.int p1)])) t
              refine XS.icmpNo X0.here hx rfl (hb hby d1_33) rfl (flt hc33).1 ?_
              exact kt
            refine OGo.step (F' := s₁.setTop (mkF m 39 #[.val (.int p1)] [(.int (65533 : Int32)), (.int p1)])) (fun t kt => ?_) ?_
            · show Steps p.tables e below (s₁.setTop (mkF m 36 #[.val (.int p1)] [])) t
              refine XS.iloadN X0.here hx rfl (hb hby d1_36) rfl ?_
              show Steps p.tables e below (s₁.setTop (mkF m 37 #[.val (.int p1)] [(.int p1)])) t
              refine X0.ldcInt hx hown (mvT hZ (own_wd hw 23 rfl)) (g := (mkF m 37 #[.val (.int p1)] [(.int p1)])) rfl (hb hby d1_37) _ ?_
              exact kt
            by_cases hc39 : (65533 : Int32) < p1
            · refine OGo.step (F' := s₁.setTop (mkF m 42 #[.val (.int p1)] [])) (fun t kt => ?_) ?_
              · show Steps p.tables e below (s₁.setTop (mkF m 39 #[.val (.int p1)] [(.int (65533 : Int32)), (.int p1)])) t
                refine XS.icmpNo X0.here hx rfl (hb hby d1_39) rfl (tlt hc39).2.2.2 ?_
                exact kt
              refine OGo.step (F' := s₁.setTop (mkF m 45 #[.val (.int p1)] [(.int (65536 : Int32)), (.int p1)])) (fun t kt => ?_) ?_
              · show Steps p.tables e below (s₁.setTop (mkF m 42 #[.val (.int p1)] [])) t
                refine XS.iloadN X0.here hx rfl (hb hby d1_42) rfl ?_
                show Steps p.tables e below (s₁.setTop (mkF m 43 #[.val (.int p1)] [(.int p1)])) t
                refine X0.ldcInt hx hown (mvT hZ (own_wd hw 16 rfl)) (g := (mkF m 43 #[.val (.int p1)] [(.int p1)])) rfl (hb hby d1_43) _ ?_
                exact kt
              by_cases hc45 : p1 < (65536 : Int32)
              · refine OGo.step (F' := s₁.setTop (mkF m 58 #[.val (.int p1)] [])) (fun t kt => ?_) ?_
                · show Steps p.tables e below (s₁.setTop (mkF m 45 #[.val (.int p1)] [(.int (65536 : Int32)), (.int p1)])) t
                  refine XS.icmpYes X0.here hx rfl (pc0 := 45) (pc' := 58) rfl (hb hby d1_45) rfl (tlt hc45).1 (by decide) (by decide) ?_
                  exact kt
                refine OGo.step (F' := s₁.setTop (mkF m 59 #[.val (.int p1)] [(.int (0 : Int32))])) (fun t kt => ?_) ?_
                · show Steps p.tables e below (s₁.setTop (mkF m 58 #[.val (.int p1)] [])) t
                  refine XS.iconst X0.here hx rfl (hb hby d1_58) ?_
                  exact kt
                refine OGo.retZ X0 hx hlk (t := .boolean) (z' := (0 : Int32)) hret (by simp) (hb hby d1_59) rfl ?_ (by decide) (by decide)
                exact ⟨(by rw [f1, if_neg hc3, if_neg hc9, if_neg hc15, if_pos hc21, if_neg hc33, if_pos hc39, if_pos hc45]), N0, e0⟩
              · refine OGo.step (F' := s₁.setTop (mkF m 48 #[.val (.int p1)] [])) (fun t kt => ?_) ?_
                · show Steps p.tables e below (s₁.setTop (mkF m 45 #[.val (.int p1)] [(.int (65536 : Int32)), (.int p1)])) t
                  refine XS.icmpNo X0.here hx rfl (hb hby d1_45) rfl (flt hc45).1 ?_
                  exact kt
                refine OGo.step (F' := s₁.setTop (mkF m 51 #[.val (.int p1)] [(.int (1114111 : Int32)), (.int p1)])) (fun t kt => ?_) ?_
                · show Steps p.tables e below (s₁.setTop (mkF m 48 #[.val (.int p1)] [])) t
                  refine XS.iloadN X0.here hx rfl (hb hby d1_48) rfl ?_
                  show Steps p.tables e below (s₁.setTop (mkF m 49 #[.val (.int p1)] [(.int p1)])) t
                  refine X0.ldcInt hx hown (mvT hZ (own_wd hw 24 rfl)) (g := (mkF m 49 #[.val (.int p1)] [(.int p1)])) rfl (hb hby d1_49) _ ?_
                  exact kt
                by_cases hc51 : (1114111 : Int32) < p1
                · refine OGo.step (F' := s₁.setTop (mkF m 58 #[.val (.int p1)] [])) (fun t kt => ?_) ?_
                  · show Steps p.tables e below (s₁.setTop (mkF m 51 #[.val (.int p1)] [(.int (1114111 : Int32)), (.int p1)])) t
                    refine XS.icmpYes X0.here hx rfl (pc0 := 51) (pc' := 58) rfl (hb hby d1_51) rfl (tlt hc51).2.2.1 (by decide) (by decide) ?_
                    exact kt
                  refine OGo.step (F' := s₁.setTop (mkF m 59 #[.val (.int p1)] [(.int (0 : Int32))])) (fun t kt => ?_) ?_
                  · show Steps p.tables e below (s₁.setTop (mkF m 58 #[.val (.int p1)] [])) t
                    refine XS.iconst X0.here hx rfl (hb hby d1_58) ?_
                    exact kt
                  refine OGo.retZ X0 hx hlk (t := .boolean) (z' := (0 : Int32)) hret (by simp) (hb hby d1_59) rfl ?_ (by decide) (by decide)
                  exact ⟨(by rw [f1, if_neg hc3, if_neg hc9, if_neg hc15, if_pos hc21, if_neg hc33, if_pos hc39, if_neg hc45, if_pos hc51]), N0, e0⟩
                · refine OGo.step (F' := s₁.setTop (mkF m 54 #[.val (.int p1)] [])) (fun t kt => ?_) ?_
                  · show Steps p.tables e below (s₁.setTop (mkF m 51 #[.val (.int p1)] [(.int (1114111 : Int32)), (.int p1)])) t
                    refine XS.icmpNo X0.here hx rfl (hb hby d1_51) rfl (flt hc51).2.2.1 ?_
                    exact kt
                  refine OGo.step (F' := s₁.setTop (mkF m 59 #[.val (.int p1)] [(.int (1 : Int32))])) (fun t kt => ?_) ?_
                  · show Steps p.tables e below (s₁.setTop (mkF m 54 #[.val (.int p1)] [])) t
                    refine XS.iconst X0.here hx rfl (hb hby d1_54) ?_
                    show Steps p.tables e below (s₁.setTop (mkF m 55 #[.val (.int p1)] [(.int (1 : Int32))])) t
                    refine XS.goto X0.here hx rfl (pc0 := 55) (pc' := 59) rfl (hb hby d1_55) (by decide) (by decide) ?_
                    exact kt
                  refine OGo.retZ X0 hx hlk (t := .boolean) (z' := (1 : Int32)) hret (by simp) (hb hby d1_59) rfl ?_ (by decide) (by decide)
                  exact ⟨(by rw [f1, if_neg hc3, if_neg hc9, if_neg hc15, if_pos hc21, if_neg hc33, if_pos hc39, if_neg hc45, if_neg hc51]), N0, e0⟩
            · refine OGo.step (F' := s₁.setTop (mkF m 54 #[.val (.int p1)] [])) (fun t kt => ?_) ?_
              · show Steps p.tables e below (s₁.setTop (mkF m 39 #[.val (.int p1)] [(.int (65533 : Int32)), (.int p1)])) t
                refine XS.icmpYes X0.here hx rfl (pc0 := 39) (pc' := 54) rfl (hb hby d1_39) rfl (flt hc39).2.2.2 (by decide) (by decide) ?_
                exact kt
              refine OGo.step (F' := s₁.setTop (mkF m 59 #[.val (.int p1)] [(.int (1 : Int32))])) (fun t kt => ?_) ?_
              · show Steps p.tables e below (s₁.setTop (mkF m 54 #[.val (.int p1)] [])) t
                refine XS.iconst X0.here hx rfl (hb hby d1_54) ?_
                show Steps p.tables e below (s₁.setTop (mkF m 55 #[.val (.int p1)] [(.int (1 : Int32))])) t
                refine XS.goto X0.here hx rfl (pc0 := 55) (pc' := 59) rfl (hb hby d1_55) (by decide) (by decide) ?_
                exact kt
              refine OGo.retZ X0 hx hlk (t := .boolean) (z' := (1 : Int32)) hret (by simp) (hb hby d1_59) rfl ?_ (by decide) (by decide)
              exact ⟨(by rw [f1, if_neg hc3, if_neg hc9, if_neg hc15, if_pos hc21, if_neg hc33, if_neg hc39]), N0, e0⟩
        · refine OGo.step (F' := s₁.setTop (mkF m 24 #[.val (.int p1)] [])) (fun t kt => ?_) ?_
          · show Steps p.tables e below (s₁.setTop (mkF m 21 #[.val (.int p1)] [(.int (32 : Int32)), (.int p1)])) t
            refine XS.icmpNo X0.here hx rfl (hb hby d1_21) rfl (flt hc21).1 ?_
            exact kt
          refine OGo.step (F' := s₁.setTop (mkF m 27 #[.val (.int p1)] [(.int (55295 : Int32)), (.int p1)])) (fun t kt => ?_) ?_
          · show Steps p.tables e below (s₁.setTop (mkF m 24 #[.val (.int p1)] [])) t
            refine XS.iloadN X0.here hx rfl (hb hby d1_24) rfl ?_
            show Steps p.tables e below (s₁.setTop (mkF m 25 #[.val (.int p1)] [(.int p1)])) t
            refine X0.ldcInt hx hown (mvT hZ (own_wd hw 22 rfl)) (g := (mkF m 25 #[.val (.int p1)] [(.int p1)])) rfl (hb hby d1_25) _ ?_
            exact kt
          by_cases hc27 : (55295 : Int32) < p1
          · refine OGo.step (F' := s₁.setTop (mkF m 30 #[.val (.int p1)] [])) (fun t kt => ?_) ?_
            · show Steps p.tables e below (s₁.setTop (mkF m 27 #[.val (.int p1)] [(.int (55295 : Int32)), (.int p1)])) t
              refine XS.icmpNo X0.here hx rfl (hb hby d1_27) rfl (tlt hc27).2.2.2 ?_
              exact kt
            refine OGo.step (F' := s₁.setTop (mkF m 33 #[.val (.int p1)] [(.int (57344 : Int32)), (.int p1)])) (fun t kt => ?_) ?_
            · show Steps p.tables e below (s₁.setTop (mkF m 30 #[.val (.int p1)] [])) t
              refine XS.iloadN X0.here hx rfl (hb hby d1_30) rfl ?_
              show Steps p.tables e below (s₁.setTop (mkF m 31 #[.val (.int p1)] [(.int p1)])) t
              refine X0.ldcInt hx hown (mvT hZ (own_wd hw 15 rfl)) (g := (mkF m 31 #[.val (.int p1)] [(.int p1)])) rfl (hb hby d1_31) _ ?_
              exact kt
            by_cases hc33 : p1 < (57344 : Int32)
            · refine OGo.step (F' := s₁.setTop (mkF m 42 #[.val (.int p1)] [])) (fun t kt => ?_) ?_
              · show Steps p.tables e below (s₁.setTop (mkF m 33 #[.val (.int p1)] [(.int (57344 : Int32)), (.int p1)])) t
                refine XS.icmpYes X0.here hx rfl (pc0 := 33) (pc' := 42) rfl (hb hby d1_33) rfl (tlt hc33).1 (by decide) (by decide) ?_
                exact kt
              refine OGo.step (F' := s₁.setTop (mkF m 45 #[.val (.int p1)] [(.int (65536 : Int32)), (.int p1)])) (fun t kt => ?_) ?_
              · show Steps p.tables e below (s₁.setTop (mkF m 42 #[.val (.int p1)] [])) t
                refine XS.iloadN X0.here hx rfl (hb hby d1_42) rfl ?_
                show Steps p.tables e below (s₁.setTop (mkF m 43 #[.val (.int p1)] [(.int p1)])) t
                refine X0.ldcInt hx hown (mvT hZ (own_wd hw 16 rfl)) (g := (mkF m 43 #[.val (.int p1)] [(.int p1)])) rfl (hb hby d1_43) _ ?_
                exact kt
              by_cases hc45 : p1 < (65536 : Int32)
              · refine OGo.step (F' := s₁.setTop (mkF m 58 #[.val (.int p1)] [])) (fun t kt => ?_) ?_
                · show Steps p.tables e below (s₁.setTop (mkF m 45 #[.val (.int p1)] [(.int (65536 : Int32)), (.int p1)])) t
                  refine XS.icmpYes X0.here hx rfl (pc0 := 45) (pc' := 58) rfl (hb hby d1_45) rfl (tlt hc45).1 (by decide) (by decide) ?_
                  exact kt
                refine OGo.step (F' := s₁.setTop (mkF m 59 #[.val (.int p1)] [(.int (0 : Int32))])) (fun t kt => ?_) ?_
                · show Steps p.tables e below (s₁.setTop (mkF m 58 #[.val (.int p1)] [])) t
                  refine XS.iconst X0.here hx rfl (hb hby d1_58) ?_
                  exact kt
                refine OGo.retZ X0 hx hlk (t := .boolean) (z' := (0 : Int32)) hret (by simp) (hb hby d1_59) rfl ?_ (by decide) (by decide)
                exact ⟨(by rw [f1, if_neg hc3, if_neg hc9, if_neg hc15, if_neg hc21, if_pos hc27, if_pos hc33, if_pos hc45]), N0, e0⟩
              · refine OGo.step (F' := s₁.setTop (mkF m 48 #[.val (.int p1)] [])) (fun t kt => ?_) ?_
                · show Steps p.tables e below (s₁.setTop (mkF m 45 #[.val (.int p1)] [(.int (65536 : Int32)), (.int p1)])) t
                  refine XS.icmpNo X0.here hx rfl (hb hby d1_45) rfl (flt hc45).1 ?_
                  exact kt
                refine OGo.step (F' := s₁.setTop (mkF m 51 #[.val (.int p1)] [(.int (1114111 : Int32)), (.int p1)])) (fun t kt => ?_) ?_
                · show Steps p.tables e below (s₁.setTop (mkF m 48 #[.val (.int p1)] [])) t
                  refine XS.iloadN X0.here hx rfl (hb hby d1_48) rfl ?_
                  show Steps p.tables e below (s₁.setTop (mkF m 49 #[.val (.int p1)] [(.int p1)])) t
                  refine X0.ldcInt hx hown (mvT hZ (own_wd hw 24 rfl)) (g := (mkF m 49 #[.val (.int p1)] [(.int p1)])) rfl (hb hby d1_49) _ ?_
                  exact kt
                by_cases hc51 : (1114111 : Int32) < p1
                · refine OGo.step (F' := s₁.setTop (mkF m 58 #[.val (.int p1)] [])) (fun t kt => ?_) ?_
                  · show Steps p.tables e below (s₁.setTop (mkF m 51 #[.val (.int p1)] [(.int (1114111 : Int32)), (.int p1)])) t
                    refine XS.icmpYes X0.here hx rfl (pc0 := 51) (pc' := 58) rfl (hb hby d1_51) rfl (tlt hc51).2.2.1 (by decide) (by decide) ?_
                    exact kt
                  refine OGo.step (F' := s₁.setTop (mkF m 59 #[.val (.int p1)] [(.int (0 : Int32))])) (fun t kt => ?_) ?_
                  · show Steps p.tables e below (s₁.setTop (mkF m 58 #[.val (.int p1)] [])) t
                    refine XS.iconst X0.here hx rfl (hb hby d1_58) ?_
                    exact kt
                  refine OGo.retZ X0 hx hlk (t := .boolean) (z' := (0 : Int32)) hret (by simp) (hb hby d1_59) rfl ?_ (by decide) (by decide)
                  exact ⟨(by rw [f1, if_neg hc3, if_neg hc9, if_neg hc15, if_neg hc21, if_pos hc27, if_pos hc33, if_neg hc45, if_pos hc51]), N0, e0⟩
                · refine OGo.step (F' := s₁.setTop (mkF m 54 #[.val (.int p1)] [])) (fun t kt => ?_) ?_
                  · show Steps p.tables e below (s₁.setTop (mkF m 51 #[.val (.int p1)] [(.int (1114111 : Int32)), (.int p1)])) t
                    refine XS.icmpNo X0.here hx rfl (hb hby d1_51) rfl (flt hc51).2.2.1 ?_
                    exact kt
                  refine OGo.step (F' := s₁.setTop (mkF m 59 #[.val (.int p1)] [(.int (1 : Int32))])) (fun t kt => ?_) ?_
                  · show Steps p.tables e below (s₁.setTop (mkF m 54 #[.val (.int p1)] [])) t
                    refine XS.iconst X0.here hx rfl (hb hby d1_54) ?_
                    show Steps p.tables e below (s₁.setTop (mkF m 55 #[.val (.int p1)] [(.int (1 : Int32))])) t
                    refine XS.goto X0.here hx rfl (pc0 := 55) (pc' := 59) rfl (hb hby d1_55) (by decide) (by decide) ?_
                    exact kt
                  refine OGo.retZ X0 hx hlk (t := .boolean) (z' := (1 : Int32)) hret (by simp) (hb hby d1_59) rfl ?_ (by decide) (by decide)
                  exact ⟨(by rw [f1, if_neg hc3, if_neg hc9, if_neg hc15, if_neg hc21, if_pos hc27, if_pos hc33, if_neg hc45, if_neg hc51]), N0, e0⟩
            · refine OGo.step (F' := s₁.setTop (mkF m 36 #[.val (.int p1)] [])) (fun t kt => ?_) ?_
              · show Steps p.tables e below (s₁.setTop (mkF m 33 #[.val (.int p1)] [(.int (57344 : Int32)), (.int p1)])) t
                refine XS.icmpNo X0.here hx rfl (hb hby d1_33) rfl (flt hc33).1 ?_
                exact kt
              refine OGo.step (F' := s₁.setTop (mkF m 39 #[.val (.int p1)] [(.int (65533 : Int32)), (.int p1)])) (fun t kt => ?_) ?_
              · show Steps p.tables e below (s₁.setTop (mkF m 36 #[.val (.int p1)] [])) t
                refine XS.iloadN X0.here hx rfl (hb hby d1_36) rfl ?_
                show Steps p.tables e below (s₁.setTop (mkF m 37 #[.val (.int p1)] [(.int p1)])) t
                refine X0.ldcInt hx hown (mvT hZ (own_wd hw 23 rfl)) (g := (mkF m 37 #[.val (.int p1)] [(.int p1)])) rfl (hb hby d1_37) _ ?_
                exact kt
              by_cases hc39 : (65533 : Int32) < p1
              · refine OGo.step (F' := s₁.setTop (mkF m 42 #[.val (.int p1)] [])) (fun t kt => ?_) ?_
                · show Steps p.tables e below (s₁.setTop (mkF m 39 #[.val (.int p1)] [(.int (65533 : Int32)), (.int p1)])) t
                  refine XS.icmpNo X0.here hx rfl (hb hby d1_39) rfl (tlt hc39).2.2.2 ?_
                  exact kt
                refine OGo.step (F' := s₁.setTop (mkF m 45 #[.val (.int p1)] [(.int (65536 : Int32)), (.int p1)])) (fun t kt => ?_) ?_
                · show Steps p.tables e below (s₁.setTop (mkF m 42 #[.val (.int p1)] [])) t
                  refine XS.iloadN X0.here hx rfl (hb hby d1_42) rfl ?_
                  show Steps p.tables e below (s₁.setTop (mkF m 43 #[.val (.int p1)] [(.int p1)])) t
                  refine X0.ldcInt hx hown (mvT hZ (own_wd hw 16 rfl)) (g := (mkF m 43 #[.val (.int p1)] [(.int p1)])) rfl (hb hby d1_43) _ ?_
                  exact kt
                by_cases hc45 : p1 < (65536 : Int32)
                · refine OGo.step (F' := s₁.setTop (mkF m 58 #[.val (.int p1)] [])) (fun t kt => ?_) ?_
                  · show Steps p.tables e below (s₁.setTop (mkF m 45 #[.val (.int p1)] [(.int (65536 : Int32)), (.int p1)])) t
                    refine XS.icmpYes X0.here hx rfl (pc0 := 45) (pc' := 58) rfl (hb hby d1_45) rfl (tlt hc45).1 (by decide) (by decide) ?_
                    exact kt
                  refine OGo.step (F' := s₁.setTop (mkF m 59 #[.val (.int p1)] [(.int (0 : Int32))])) (fun t kt => ?_) ?_
                  · show Steps p.tables e below (s₁.setTop (mkF m 58 #[.val (.int p1)] [])) t
                    refine XS.iconst X0.here hx rfl (hb hby d1_58) ?_
                    exact kt
                  refine OGo.retZ X0 hx hlk (t := .boolean) (z' := (0 : Int32)) hret (by simp) (hb hby d1_59) rfl ?_ (by decide) (by decide)
                  exact ⟨(by rw [f1, if_neg hc3, if_neg hc9, if_neg hc15, if_neg hc21, if_pos hc27, if_neg hc33, if_pos hc39, if_pos hc45]), N0, e0⟩
                · refine OGo.step (F' := s₁.setTop (mkF m 48 #[.val (.int p1)] [])) (fun t kt => ?_) ?_
                  · show Steps p.tables e below (s₁.setTop (mkF m 45 #[.val (.int p1)] [(.int (65536 : Int32)), (.int p1)])) t
                    refine XS.icmpNo X0.here hx rfl (hb hby d1_45) rfl (flt hc45).1 ?_
                    exact kt
                  refine OGo.step (F' := s₁.setTop (mkF m 51 #[.val (.int p1)] [(.int (1114111 : Int32)), (.int p1)])) (fun t kt => ?_) ?_
                  · show Steps p.tables e below (s₁.setTop (mkF m 48 #[.val (.int p1)] [])) t
                    refine XS.iloadN X0.here hx rfl (hb hby d1_48) rfl ?_
                    show Steps p.tables e below (s₁.setTop (mkF m 49 #[.val (.int p1)] [(.int p1)])) t
                    refine X0.ldcInt hx hown (mvT hZ (own_wd hw 24 rfl)) (g := (mkF m 49 #[.val (.int p1)] [(.int p1)])) rfl (hb hby d1_49) _ ?_
                    exact kt
                  by_cases hc51 : (1114111 : Int32) < p1
                  · refine OGo.step (F' := s₁.setTop (mkF m 58 #[.val (.int p1)] [])) (fun t kt => ?_) ?_
                    · show Steps p.tables e below (s₁.setTop (mkF m 51 #[.val (.int p1)] [(.int (1114111 : Int32)), (.int p1)])) t
                      refine XS.icmpYes X0.here hx rfl (pc0 := 51) (pc' := 58) rfl (hb hby d1_51) rfl (tlt hc51).2.2.1 (by decide) (by decide) ?_
                      exact kt
                    refine OGo.step (F' := s₁.setTop (mkF m 59 #[.val (.int p1)] [(.int (0 : Int32))])) (fun t kt => ?_) ?_
                    · show Steps p.tables e below (s₁.setTop (mkF m 58 #[.val (.int p1)] [])) t
                      refine XS.iconst X0.here hx rfl (hb hby d1_58) ?_
                      exact kt
                    refine OGo.retZ X0 hx hlk (t := .boolean) (z' := (0 : Int32)) hret (by simp) (hb hby d1_59) rfl ?_ (by decide) (by decide)
                    exact ⟨(by rw [f1, if_neg hc3, if_neg hc9, if_neg hc15, if_neg hc21, if_pos hc27, if_neg hc33, if_pos hc39, if_neg hc45, if_pos hc51]), N0, e0⟩
                  · refine OGo.step (F' := s₁.setTop (mkF m 54 #[.val (.int p1)] [])) (fun t kt => ?_) ?_
                    · show Steps p.tables e below (s₁.setTop (mkF m 51 #[.val (.int p1)] [(.int (1114111 : Int32)), (.int p1)])) t
                      refine XS.icmpNo X0.here hx rfl (hb hby d1_51) rfl (flt hc51).2.2.1 ?_
                      exact kt
                    refine OGo.step (F' := s₁.setTop (mkF m 59 #[.val (.int p1)] [(.int (1 : Int32))])) (fun t kt => ?_) ?_
                    · show Steps p.tables e below (s₁.setTop (mkF m 54 #[.val (.int p1)] [])) t
                      refine XS.iconst X0.here hx rfl (hb hby d1_54) ?_
                      show Steps p.tables e below (s₁.setTop (mkF m 55 #[.val (.int p1)] [(.int (1 : Int32))])) t
                      refine XS.goto X0.here hx rfl (pc0 := 55) (pc' := 59) rfl (hb hby d1_55) (by decide) (by decide) ?_
                      exact kt
                    refine OGo.retZ X0 hx hlk (t := .boolean) (z' := (1 : Int32)) hret (by simp) (hb hby d1_59) rfl ?_ (by decide) (by decide)
                    exact ⟨(by rw [f1, if_neg hc3, if_neg hc9, if_neg hc15, if_neg hc21, if_pos hc27, if_neg hc33, if_pos hc39, if_neg hc45, if_neg hc51]), N0, e0⟩
              · refine OGo.step (F' := s₁.setTop (mkF m 54 #[.val (.int p1)] [])) (fun t kt => ?_) ?_
                · show Steps p.tables e below (s₁.setTop (mkF m 39 #[.val (.int p1)] [(.int (65533 : Int32)), (.int p1)])) t
                  refine XS.icmpYes X0.here hx rfl (pc0 := 39) (pc' := 54) rfl (hb hby d1_39) rfl (flt hc39).2.2.2 (by decide) (by decide) ?_
                  exact kt
                refine OGo.step (F' := s₁.setTop (mkF m 59 #[.val (.int p1)] [(.int (1 : Int32))])) (fun t kt => ?_) ?_
                · show Steps p.tables e below (s₁.setTop (mkF m 54 #[.val (.int p1)] [])) t
                  refine XS.iconst X0.here hx rfl (hb hby d1_54) ?_
                  show Steps p.tables e below (s₁.setTop (mkF m 55 #[.val (.int p1)] [(.int (1 : Int32))])) t
                  refine XS.goto X0.here hx rfl (pc0 := 55) (pc' := 59) rfl (hb hby d1_55) (by decide) (by decide) ?_
                  exact kt
                refine OGo.retZ X0 hx hlk (t := .boolean) (z' := (1 : Int32)) hret (by simp) (hb hby d1_59) rfl ?_ (by decide) (by decide)
                exact ⟨(by rw [f1, if_neg hc3, if_neg hc9, if_neg hc15, if_neg hc21, if_pos hc27, if_neg hc33, if_neg hc39]), N0, e0⟩
          · refine OGo.step (F' := s₁.setTop (mkF m 54 #[.val (.int p1)] [])) (fun t kt => ?_) ?_
            · show Steps p.tables e below (s₁.setTop (mkF m 27 #[.val (.int p1)] [(.int (55295 : Int32)), (.int p1)])) t
              refine XS.icmpYes X0.here hx rfl (pc0 := 27) (pc' := 54) rfl (hb hby d1_27) rfl (flt hc27).2.2.2 (by decide) (by decide) ?_
              exact kt
            refine OGo.step (F' := s₁.setTop (mkF m 59 #[.val (.int p1)] [(.int (1 : Int32))])) (fun t kt => ?_) ?_
            · show Steps p.tables e below (s₁.setTop (mkF m 54 #[.val (.int p1)] [])) t
              refine XS.iconst X0.here hx rfl (hb hby d1_54) ?_
              show Steps p.tables e below (s₁.setTop (mkF m 55 #[.val (.int p1)] [(.int (1 : Int32))])) t
              refine XS.goto X0.here hx rfl (pc0 := 55) (pc' := 59) rfl (hb hby d1_55) (by decide) (by decide) ?_
              exact kt
            refine OGo.retZ X0 hx hlk (t := .boolean) (z' := (1 : Int32)) hret (by simp) (hb hby d1_59) rfl ?_ (by decide) (by decide)
            exact ⟨(by rw [f1, if_neg hc3, if_neg hc9, if_neg hc15, if_neg hc21, if_neg hc27]), N0, e0⟩
/-! body 2: com/example/cadmus/cadmus/xdm/XmlCharsIsCharPinLaw.reference:(I)Z -/
theorem d2_0 : decode method_2_code 0 = .ok (.iload_n 0, 1) := by decide +kernel
theorem d2_1 : decode method_2_code 1 = .ok (.ifCond .lt 9, 3) := by decide +kernel
theorem d2_4 : decode method_2_code 4 = .ok (.iload_n 0, 1) := by decide +kernel
theorem d2_5 : decode method_2_code 5 = .ok (.ldc 7, 2) := by decide +kernel
theorem d2_7 : decode method_2_code 7 = .ok (.if_icmp .le 5, 3) := by decide +kernel
theorem d2_10 : decode method_2_code 10 = .ok (.iconst 0, 1) := by decide +kernel
theorem d2_11 : decode method_2_code 11 = .ok (.ireturn, 1) := by decide +kernel
theorem d2_12 : decode method_2_code 12 = .ok (.iload_n 0, 1) := by decide +kernel
theorem d2_13 : decode method_2_code 13 = .ok (.ldc 8, 2) := by decide +kernel
theorem d2_15 : decode method_2_code 15 = .ok (.if_icmp .lt 11, 3) := by decide +kernel
theorem d2_18 : decode method_2_code 18 = .ok (.iload_n 0, 1) := by decide +kernel
theorem d2_19 : decode method_2_code 19 = .ok (.ldc 9, 2) := by decide +kernel
theorem d2_21 : decode method_2_code 21 = .ok (.if_icmp .gt 5, 3) := by decide +kernel
theorem d2_24 : decode method_2_code 24 = .ok (.iconst 0, 1) := by decide +kernel
theorem d2_25 : decode method_2_code 25 = .ok (.ireturn, 1) := by decide +kernel
theorem d2_26 : decode method_2_code 26 = .ok (.iload_n 0, 1) := by decide +kernel
theorem d2_27 : decode method_2_code 27 = .ok (.ldc 10, 2) := by decide +kernel
theorem d2_29 : decode method_2_code 29 = .ok (.if_icmp .eq 9, 3) := by decide +kernel
theorem d2_32 : decode method_2_code 32 = .ok (.iload_n 0, 1) := by decide +kernel
theorem d2_33 : decode method_2_code 33 = .ok (.ldc 11, 2) := by decide +kernel
theorem d2_35 : decode method_2_code 35 = .ok (.if_icmp .ne 5, 3) := by decide +kernel
theorem d2_38 : decode method_2_code 38 = .ok (.iconst 0, 1) := by decide +kernel
theorem d2_39 : decode method_2_code 39 = .ok (.ireturn, 1) := by decide +kernel
theorem d2_40 : decode method_2_code 40 = .ok (.iload_n 0, 1) := by decide +kernel
theorem d2_41 : decode method_2_code 41 = .ok (.bipush 32, 2) := by decide +kernel
theorem d2_43 : decode method_2_code 43 = .ok (.if_icmp .ge 27, 3) := by decide +kernel
theorem d2_46 : decode method_2_code 46 = .ok (.iload_n 0, 1) := by decide +kernel
theorem d2_47 : decode method_2_code 47 = .ok (.bipush 9, 2) := by decide +kernel
theorem d2_49 : decode method_2_code 49 = .ok (.if_icmp .eq 15, 3) := by decide +kernel
theorem d2_52 : decode method_2_code 52 = .ok (.iload_n 0, 1) := by decide +kernel
theorem d2_53 : decode method_2_code 53 = .ok (.bipush 10, 2) := by decide +kernel
theorem d2_55 : decode method_2_code 55 = .ok (.if_icmp .eq 9, 3) := by decide +kernel
theorem d2_58 : decode method_2_code 58 = .ok (.iload_n 0, 1) := by decide +kernel
theorem d2_59 : decode method_2_code 59 = .ok (.bipush 13, 2) := by decide +kernel
theorem d2_61 : decode method_2_code 61 = .ok (.if_icmp .ne 7, 3) := by decide +kernel
theorem d2_64 : decode method_2_code 64 = .ok (.iconst 1, 1) := by decide +kernel
theorem d2_65 : decode method_2_code 65 = .ok (.goto 4, 3) := by decide +kernel
theorem d2_68 : decode method_2_code 68 = .ok (.iconst 0, 1) := by decide +kernel
theorem d2_69 : decode method_2_code 69 = .ok (.ireturn, 1) := by decide +kernel
theorem d2_70 : decode method_2_code 70 = .ok (.iconst 1, 1) := by decide +kernel
theorem d2_71 : decode method_2_code 71 = .ok (.ireturn, 1) := by decide +kernel
theorem pn_2 : plainName "com/example/cadmus/cadmus/xdm/XmlCharsIsCharPinLaw" = true := by first | (simp [plainName, overriddenIn]; done) | decide +kernel
theorem ef_2 (m : MethodId) (x0 : Int32) : entryFrame m #[(.int x0)] 1 = mkF m 0 #[.val (.int x0)] [] := by first | (simp [entryFrame, mkF, argsToLocals, Value.category]; done) | rfl
def f2 (p1 : Int32) : Int32 :=
  if p1 < (0 : Int32) then (0 : Int32)
  else if (1114111 : Int32) < p1 then (0 : Int32)
    else if p1 < (55296 : Int32) then (if p1 = (65534 : Int32) then (0 : Int32)
        else if p1 = (65535 : Int32) then (0 : Int32)
          else if p1 < (32 : Int32) then (if p1 = (9 : Int32) then (1 : Int32)
              else if p1 = (10 : Int32) then (1 : Int32)
                else if p1 = (13 : Int32) then (1 : Int32)
                  else (0 : Int32))
            else (1 : Int32))
      else if (57343 : Int32) < p1 then (if p1 = (65534 : Int32) then (0 : Int32)
          else if p1 = (65535 : Int32) then (0 : Int32)
            else if p1 < (32 : Int32) then (if p1 = (9 : Int32) then (1 : Int32)
                else if p1 = (10 : Int32) then (1 : Int32)
                  else if p1 = (13 : Int32) then (1 : Int32)
                    else (0 : Int32))
              else (1 : Int32))
        else (0 : Int32)
theorem fb2 (p1 : Int32) : nar .boolean (f2 p1) = (f2 p1) := by
  unfold f2
  repeat' split
  all_goals first | rfl | decide
set_option maxRecDepth 65536 in
set_option maxHeartbeats 40000000 in
theorem rm2 (l : Launch) (Z : State) (az : Array Value) (hw : ∀ d ∈ tables_1, d.before az Z = true) (ws : List Jvm.Cond) (p1 : Int32) (h0 : Heap) (n0 : Nat) (Z0 : n0 ≤ h0.size) :
    OCtr l Z (⟨"com/example/cadmus/cadmus/xdm/XmlCharsIsCharPinLaw", "reference", "(I)Z"⟩ : MethodName) method_2_code 1 (some .boolean) ws ({ frames := 0, cells := 0, slots := 0, locals := 0 } : Room) #[(.int p1)] h0 (OPure (some (.int (f2 p1))) h0 n0) := by
  refine OCtr.of (plainFor_of_name pn_2) ?_
  intro p e s m below meth c s₁ X0 hx hlk hZ hown0 hnm hby hml0 hret e0
  have hown : s.vm.findClass "com/example/cadmus/cadmus/xdm/XmlCharsIsCharPinLaw" = some m.cls := hown0
  have hml : c.maxLocals = 1 := hml0
  have N0 := Fr.nil n0
  refine OGo.step (fun t k => castTop (ef_2 m p1) k) ?_
  refine OGo.step (F' := s₁.setTop (mkF m 1 #[.val (.int p1)] [(.int p1)])) (fun t kt => ?_) ?_
  · show Steps p.tables e below (s₁.setTop (mkF m 0 #[.val (.int p1)] [])) t
    refine XS.iloadN X0.here hx rfl (hb hby d2_0) rfl ?_
    exact kt
  by_cases hc1 : p1 < (0 : Int32)
  · refine OGo.step (F' := s₁.setTop (mkF m 10 #[.val (.int p1)] [])) (fun t kt => ?_) ?_
    · show Steps p.tables e below (s₁.setTop (mkF m 1 #[.val (.int p1)] [(.int p1)])) t
      refine XS.ifYes X0.here hx rfl (pc0 := 1) (pc' := 10) rfl (hb hby d2_1) rfl ((if0 _ _).trans (tlt hc1).1) (by decide) (by decide) ?_
      exact kt
    refine OGo.step (F' := s₁.setTop (mkF m 11 #[.val (.int p1)] [(.int (0 : Int32))])) (fun t kt => ?_) ?_
    · show Steps p.tables e below (s₁.setTop (mkF m 10 #[.val (.int p1)] [])) t
      refine XS.iconst X0.here hx rfl (hb hby d2_10) ?_
      exact kt
    refine OGo.retZ X0 hx hlk (t := .boolean) (z' := (0 : Int32)) hret (by simp) (hb hby d2_11) rfl ?_ (by decide) (by decide)
    exact ⟨(by rw [f2, if_pos hc1]), N0, e0⟩
  · refine OGo.step (F' := s₁.setTop (mkF m 4 #[.val (.int p1)] [])) (fun t kt => ?_) ?_
    · show Steps p.tables e below (s₁.setTop (mkF m 1 #[.val (.int p1)] [(.int p1)])) t
      refine XS.ifNo X0.here hx rfl (hb hby d2_1) rfl ((if0 _ _).trans (flt hc1).1) ?_
      exact kt
    refine OGo.step (F' := s₁.setTop (mkF m 7 #[.val (.int p1)] [(.int (1114111 : Int32)), (.int p1)])) (fun t kt => ?_) ?_
    · show Steps p.tables e below (s₁.setTop (mkF m 4 #[.val (.int p1)] [])) t
      refine XS.iloadN X0.here hx rfl (hb hby d2_4) rfl ?_
      show Steps p.tables e below (s₁.setTop (mkF m 5 #[.val (.int p1)] [(.int p1)])) t
      refine X0.ldcInt hx hown (mvT hZ (own_wd hw 8 rfl)) (g := (mkF m 5 #[.val (.int p1)] [(.int p1)])) rfl (hb hby d2_5) _ ?_
      exact kt
    by_cases hc7 : (1114111 : Int32) < p1
    · refine OGo.step (F' := s₁.setTop (mkF m 10 #[.val (.int p1)] [])) (fun t kt => ?_) ?_
      · show Steps p.tables e below (s₁.setTop (mkF m 7 #[.val (.int p1)] [(.int (1114111 : Int32)), (.int p1)])) t
        refine XS.icmpNo X0.here hx rfl (hb hby d2_7) rfl (tlt hc7).2.2.2 ?_
        exact kt
      refine OGo.step (F' := s₁.setTop (mkF m 11 #[.val (.int p1)] [(.int (0 : Int32))])) (fun t kt => ?_) ?_
      · show Steps p.tables e below (s₁.setTop (mkF m 10 #[.val (.int p1)] [])) t
        refine XS.iconst X0.here hx rfl (hb hby d2_10) ?_
        exact kt
      refine OGo.retZ X0 hx hlk (t := .boolean) (z' := (0 : Int32)) hret (by simp) (hb hby d2_11) rfl ?_ (by decide) (by decide)
      exact ⟨(by rw [f2, if_neg hc1, if_pos hc7]), N0, e0⟩
    · refine OGo.step (F' := s₁.setTop (mkF m 12 #[.val (.int p1)] [])) (fun t kt => ?_) ?_
      · show Steps p.tables e below (s₁.setTop (mkF m 7 #[.val (.int p1)] [(.int (1114111 : Int32)), (.int p1)])) t
        refine XS.icmpYes X0.here hx rfl (pc0 := 7) (pc' := 12) rfl (hb hby d2_7) rfl (flt hc7).2.2.2 (by decide) (by decide) ?_
        exact kt
      refine OGo.step (F' := s₁.setTop (mkF m 15 #[.val (.int p1)] [(.int (55296 : Int32)), (.int p1)])) (fun t kt => ?_) ?_
      · show Steps p.tables e below (s₁.setTop (mkF m 12 #[.val (.int p1)] [])) t
        refine XS.iloadN X0.here hx rfl (hb hby d2_12) rfl ?_
        show Steps p.tables e below (s₁.setTop (mkF m 13 #[.val (.int p1)] [(.int p1)])) t
        refine X0.ldcInt hx hown (mvT hZ (own_wd hw 2 rfl)) (g := (mkF m 13 #[.val (.int p1)] [(.int p1)])) rfl (hb hby d2_13) _ ?_
        exact kt
      by_cases hc15 : p1 < (55296 : Int32)
      · refine OGo.step (F' := s₁.setTop (mkF m 26 #[.val (.int p1)] [])) (fun t kt => ?_) ?_
        · show Steps p.tables e below (s₁.setTop (mkF m 15 #[.val (.int p1)] [(.int (55296 : Int32)), (.int p1)])) t
          refine XS.icmpYes X0.here hx rfl (pc0 := 15) (pc' := 26) rfl (hb hby d2_15) rfl (tlt hc15).1 (by decide) (by decide) ?_
          exact kt
        refine OGo.step (F' := s₁.setTop (mkF m 29 #[.val (.int p1)] [(.int (65534 : Int32)), (.int p1)])) (fun t kt => ?_) ?_
        · show Steps p.tables e below (s₁.setTop (mkF m 26 #[.val (.int p1)] [])) t
          refine XS.iloadN X0.here hx rfl (hb hby d2_26) rfl ?_
          show Steps p.tables e below (s₁.setTop (mkF m 27 #[.val (.int p1)] [(.int p1)])) t
          refine X0.ldcInt hx hown (mvT hZ (own_wd hw 21 rfl)) (g := (mkF m 27 #[.val (.int p1)] [(.int p1)])) rfl (hb hby d2_27) _ ?_
          exact kt
        by_cases hc29 : p1 = (65534 : Int32)
        · refine OGo.step (F' := s₁.setTop (mkF m 38 #[.val (.int p1)] [])) (fun t kt => ?_) ?_
          · show Steps p.tables e below (s₁.setTop (mkF m 29 #[.val (.int p1)] [(.int (65534 : Int32)), (.int p1)])) t
            refine XS.icmpYes X0.here hx rfl (pc0 := 29) (pc' := 38) rfl (hb hby d2_29) rfl (teq hc29).1 (by decide) (by decide) ?_
            exact kt
          refine OGo.step (F' := s₁.setTop (mkF m 39 #[.val (.int p1)] [(.int (0 : Int32))])) (fun t kt => ?_) ?_
          · show Steps p.tables e below (s₁.setTop (mkF m 38 #[.val (.int p1)] [])) t
            refine XS.iconst X0.here hx rfl (hb hby d2_38) ?_
            exact kt
          refine OGo.retZ X0 hx hlk (t := .boolean) (z' := (0 : Int32)) hret (by simp) (hb hby d2_39) rfl ?_ (by decide) (by decide)
          exact ⟨(by rw [f2, if_neg hc1, if_neg hc7, if_pos hc15, if_pos hc29]), N0, e0⟩
        · refine OGo.step (F' := s₁.setTop (mkF m 32 #[.val (.int p1)] [])) (fun t kt => ?_) ?_
          · show Steps p.tables e below (s₁.setTop (mkF m 29 #[.val (.int p1)] [(.int (65534 : Int32)), (.int p1)])) t
            refine XS.icmpNo X0.here hx rfl (hb hby d2_29) rfl (feq hc29).1 ?_
            exact kt
          refine OGo.step (F' := s₁.setTop (mkF m 35 #[.val (.int p1)] [(.int (65535 : Int32)), (.int p1)])) (fun t kt => ?_) ?_
          · show Steps p.tables e below (s₁.setTop (mkF m 32 #[.val (.int p1)] [])) t
            refine XS.iloadN X0.here hx rfl (hb hby d2_32) rfl ?_
            show Steps p.tables e below (s₁.setTop (mkF m 33 #[.val (.int p1)] [(.int p1)])) t
            refine X0.ldcInt hx hown (mvT hZ (own_wd hw 6 rfl)) (g := (mkF m 33 #[.val (.int p1)] [(.int p1)])) rfl (hb hby d2_33) _ ?_
            exact kt
          by_cases hc35 : p1 = (65535 : Int32)
          · refine OGo.step (F' := s₁.setTop (mkF m 38 #[.val (.int p1)] [])) (fun t kt => ?_) ?_
            · show Steps p.tables e below (s₁.setTop (mkF m 35 #[.val (.int p1)] [(.int (65535 : Int32)), (.int p1)])) t
              refine XS.icmpNo X0.here hx rfl (hb hby d2_35) rfl (teq hc35).2 ?_
              exact kt
            refine OGo.step (F' := s₁.setTop (mkF m 39 #[.val (.int p1)] [(.int (0 : Int32))])) (fun t kt => ?_) ?_
            · show Steps p.tables e below (s₁.setTop (mkF m 38 #[.val (.int p1)] [])) t
              refine XS.iconst X0.here hx rfl (hb hby d2_38) ?_
              exact kt
            refine OGo.retZ X0 hx hlk (t := .boolean) (z' := (0 : Int32)) hret (by simp) (hb hby d2_39) rfl ?_ (by decide) (by decide)
            exact ⟨(by rw [f2, if_neg hc1, if_neg hc7, if_pos hc15, if_neg hc29, if_pos hc35]), N0, e0⟩
          · refine OGo.step (F' := s₁.setTop (mkF m 40 #[.val (.int p1)] [])) (fun t kt => ?_) ?_
            · show Steps p.tables e below (s₁.setTop (mkF m 35 #[.val (.int p1)] [(.int (65535 : Int32)), (.int p1)])) t
              refine XS.icmpYes X0.here hx rfl (pc0 := 35) (pc' := 40) rfl (hb hby d2_35) rfl (feq hc35).2 (by decide) (by decide) ?_
              exact kt
            refine OGo.step (F' := s₁.setTop (mkF m 43 #[.val (.int p1)] [(.int (32 : Int32)), (.int p1)])) (fun t kt => ?_) ?_
            · show Steps p.tables e below (s₁.setTop (mkF m 40 #[.val (.int p1)] [])) t
              refine XS.iloadN X0.here hx rfl (hb hby d2_40) rfl ?_
              show Steps p.tables e below (s₁.setTop (mkF m 41 #[.val (.int p1)] [(.int p1)])) t
              refine XS.bipush X0.here hx rfl (hb hby d2_41) ?_
              exact kt
            by_cases hc43 : p1 < (32 : Int32)
            · refine OGo.step (F' := s₁.setTop (mkF m 46 #[.val (.int p1)] [])) (fun t kt => ?_) ?_
              · show Steps p.tables e below (s₁.setTop (mkF m 43 #[.val (.int p1)] [(.int (32 : Int32)), (.int p1)])) t
                refine XS.icmpNo X0.here hx rfl (hb hby d2_43) rfl (tlt hc43).2.1 ?_
                exact kt
              refine OGo.step (F' := s₁.setTop (mkF m 49 #[.val (.int p1)] [(.int (9 : Int32)), (.int p1)])) (fun t kt => ?_) ?_
              · show Steps p.tables e below (s₁.setTop (mkF m 46 #[.val (.int p1)] [])) t
                refine XS.iloadN X0.here hx rfl (hb hby d2_46) rfl ?_
                show Steps p.tables e below (s₁.setTop (mkF m 47 #[.val (.int p1)] [(.int p1)])) t
                refine XS.bipush X0.here hx rfl (hb hby d2_47) ?_
                exact kt
              by_cases hc49 : p1 = (9 : Int32)
              · refine OGo.step (F' := s₁.setTop (mkF m 64 #[.val (.int p1)] [])) (fun t kt => ?_) ?_
                · show Steps p.tables e below (s₁.setTop (mkF m 49 #[.val (.int p1)] [(.int (9 : Int32)), (.int p1)])) t
                  refine XS.icmpYes X0.here hx rfl (pc0 := 49) (pc' := 64) rfl (hb hby d2_49) rfl (teq hc49).1 (by decide) (by decide) ?_
                  exact kt
                refine OGo.step (F' := s₁.setTop (mkF m 69 #[.val (.int p1)] [(.int (1 : Int32))])) (fun t kt => ?_) ?_
                · show Steps p.tables e below (s₁.setTop (mkF m 64 #[.val (.int p1)] [])) t
                  refine XS.iconst X0.here hx rfl (hb hby d2_64) ?_
                  show Steps p.tables e below (s₁.setTop (mkF m 65 #[.val (.int p1)] [(.int (1 : Int32))])) t
                  refine XS.goto X0.here hx rfl (pc0 := 65) (pc' := 69) rfl (hb hby d2_65) (by decide) (by decide) ?_
                  exact kt
                refine OGo.retZ X0 hx hlk (t := .boolean) (z' := (1 : Int32)) hret (by simp) (hb hby d2_69) rfl ?_ (by decide) (by decide)
                exact ⟨(by rw [f2, if_neg hc1, if_neg hc7, if_pos hc15, if_neg hc29, if_neg hc35, if_pos hc43, if_pos hc49]), N0, e0⟩
              · refine OGo.step (F' := s₁.setTop (mkF m 52 #[.val (.int p1)] [])) (fun t kt => ?_) ?_
                · show Steps p.tables e below (s₁.setTop (mkF m 49 #[.val (.int p1)] [(.int (9 : Int32)), (.int p1)])) t
                  refine XS.icmpNo X0.here hx rfl (hb hby d2_49) rfl (feq hc49).1 ?_
                  exact kt
                refine OGo.step (F' := s₁.setTop (mkF m 55 #[.val (.int p1)] [(.int (10 : Int32)), (.int p1)])) (fun t kt => ?_) ?_
                · show Steps p.tables e below (s₁.setTop (mkF m 52 #[.val (.int p1)] [])) t
                  refine XS.iloadN X0.here hx rfl (hb hby d2_52) rfl ?_
                  show Steps p.tables e below (s₁.setTop (mkF m 53 #[.val (.int p1)] [(.int p1)])) t
                  refine XS.bipush X0.here hx rfl (hb hby d2_53) ?_
                  exact kt
                by_cases hc55 : p1 = (10 : Int32)
                · refine OGo.step (F' := s₁.setTop (mkF m 64 #[.val (.int p1)] [])) (fun t kt => ?_) ?_
                  · show Steps p.tables e below (s₁.setTop (mkF m 55 #[.val (.int p1)] [(.int (10 : Int32)), (.int p1)])) t
                    refine XS.icmpYes X0.here hx rfl (pc0 := 55) (pc' := 64) rfl (hb hby d2_55) rfl (teq hc55).1 (by decide) (by decide) ?_
                    exact kt
                  refine OGo.step (F' := s₁.setTop (mkF m 69 #[.val (.int p1)] [(.int (1 : Int32))])) (fun t kt => ?_) ?_
                  · show Steps p.tables e below (s₁.setTop (mkF m 64 #[.val (.int p1)] [])) t
                    refine XS.iconst X0.here hx rfl (hb hby d2_64) ?_
                    show Steps p.tables e below (s₁.setTop (mkF m 65 #[.val (.int p1)] [(.int (1 : Int32))])) t
                    refine XS.goto X0.here hx rfl (pc0 := 65) (pc' := 69) rfl (hb hby d2_65) (by decide) (by decide) ?_
                    exact kt
                  refine OGo.retZ X0 hx hlk (t := .boolean) (z' := (1 : Int32)) hret (by simp) (hb hby d2_69) rfl ?_ (by decide) (by decide)
                  exact ⟨(by rw [f2, if_neg hc1, if_neg hc7, if_pos hc15, if_neg hc29, if_neg hc35, if_pos hc43, if_neg hc49, if_pos hc55]), N0, e0⟩
                · refine OGo.step (F' := s₁.setTop (mkF m 58 #[.val (.int p1)] [])) (fun t kt => ?_) ?_
                  · show Steps p.tables e below (s₁.setTop (mkF m 55 #[.val (.int p1)] [(.int (10 : Int32)), (.int p1)])) t
                    refine XS.icmpNo X0.here hx rfl (hb hby d2_55) rfl (feq hc55).1 ?_
                    exact kt
                  refine OGo.step (F' := s₁.setTop (mkF m 61 #[.val (.int p1)] [(.int (13 : Int32)), (.int p1)])) (fun t kt => ?_) ?_
                  · show Steps p.tables e below (s₁.setTop (mkF m 58 #[.val (.int p1)] [])) t
                    refine XS.iloadN X0.here hx rfl (hb hby d2_58) rfl ?_
                    show Steps p.tables e below (s₁.setTop (mkF m 59 #[.val (.int p1)] [(.int p1)])) t
                    refine XS.bipush X0.here hx rfl (hb hby d2_59) ?_
                    exact kt
                  by_cases hc61 : p1 = (13 : Int32)
                  · refine OGo.step (F' := s₁.setTop (mkF m 64 #[.val (.int p1)] [])) (fun t kt => ?_) ?_
                    · show Steps p.tables e below (s₁.setTop (mkF m 61 #[.val (.int p1)] [(.int (13 : Int32)), (.int p1)])) t
                      refine XS.icmpNo X0.here hx rfl (hb hby d2_61) rfl (teq hc61).2 ?_
                      exact kt
                    refine OGo.step (F' := s₁.setTop (mkF m 69 #[.val (.int p1)] [(.int (1 : Int32))])) (fun t kt => ?_) ?_
                    · show Steps p.tables e below (s₁.setTop (mkF m 64 #[.val (.int p1)] [])) t
                      refine XS.iconst X0.here hx rfl (hb hby d2_64) ?_
                      show Steps p.tables e below (s₁.setTop (mkF m 65 #[.val (.int p1)] [(.int (1 : Int32))])) t
                      refine XS.goto X0.here hx rfl (pc0 := 65) (pc' := 69) rfl (hb hby d2_65) (by decide) (by decide) ?_
                      exact kt
                    refine OGo.retZ X0 hx hlk (t := .boolean) (z' := (1 : Int32)) hret (by simp) (hb hby d2_69) rfl ?_ (by decide) (by decide)
                    exact ⟨(by rw [f2, if_neg hc1, if_neg hc7, if_pos hc15, if_neg hc29, if_neg hc35, if_pos hc43, if_neg hc49, if_neg hc55, if_pos hc61]), N0, e0⟩
                  · refine OGo.step (F' := s₁.setTop (mkF m 68 #[.val (.int p1)] [])) (fun t kt => ?_) ?_
                    · show Steps p.tables e below (s₁.setTop (mkF m 61 #[.val (.int p1)] [(.int (13 : Int32)), (.int p1)])) t
                      refine XS.icmpYes X0.here hx rfl (pc0 := 61) (pc' := 68) rfl (hb hby d2_61) rfl (feq hc61).2 (by decide) (by decide) ?_
                      exact kt
                    refine OGo.step (F' := s₁.setTop (mkF m 69 #[.val (.int p1)] [(.int (0 : Int32))])) (fun t kt => ?_) ?_
                    · show Steps p.tables e below (s₁.setTop (mkF m 68 #[.val (.int p1)] [])) t
                      refine XS.iconst X0.here hx rfl (hb hby d2_68) ?_
                      exact kt
                    refine OGo.retZ X0 hx hlk (t := .boolean) (z' := (0 : Int32)) hret (by simp) (hb hby d2_69) rfl ?_ (by decide) (by decide)
                    exact ⟨(by rw [f2, if_neg hc1, if_neg hc7, if_pos hc15, if_neg hc29, if_neg hc35, if_pos hc43, if_neg hc49, if_neg hc55, if_neg hc61]), N0, e0⟩
            · refine OGo.step (F' := s₁.setTop (mkF m 70 #[.val (.int p1)] [])) (fun t kt => ?_) ?_
              · show Steps p.tables e below (s₁.setTop (mkF m 43 #[.val (.int p1)] [(.int (32 : Int32)), (.int p1)])) t
                refine XS.icmpYes X0.here hx rfl (pc0 := 43) (pc' := 70) rfl (hb hby d2_43) rfl (flt hc43).2.1 (by decide) (by decide) ?_
                exact kt
              refine OGo.step (F' := s₁.setTop (mkF m 71 #[.val (.int p1)] [(.int (1 : Int32))])) (fun t kt => ?_) ?_
              · show Steps p.tables e below (s₁.setTop (mkF m 70 #[.val (.int p1)] [])) t
                refine XS.iconst X0.here hx rfl (hb hby d2_70) ?_
                exact kt
              refine OGo.retZ X0 hx hlk (t := .boolean) (z' := (1 : Int32)) hret (by simp) (hb hby d2_71) rfl ?_ (by decide) (by decide)
              exact ⟨(by rw [f2, if_neg hc1, if_neg hc7, if_pos hc15, if_neg hc29, if_neg hc35, if_neg hc43]), N0, e0⟩
      · refine OGo.step (F' := s₁.setTop (mkF m 18 #[.val (.int p1)] [])) (fun t kt => ?_) ?_
        · show Steps p.tables e below (s₁.setTop (mkF m 15 #[.val (.int p1)] [(.int (55296 : Int32)), (.int p1)])) t
          refine XS.icmpNo X0.here hx rfl (hb hby d2_15) rfl (flt hc15).1 ?_
          exact kt
        refine OGo.step (F' := s₁.setTop (mkF m 21 #[.val (.int p1)] [(.int (57343 : Int32)), (.int p1)])) (fun t kt => ?_) ?_
        · show Steps p.tables e below (s₁.setTop (mkF m 18 #[.val (.int p1)] [])) t
          refine XS.iloadN X0.here hx rfl (hb hby d2_18) rfl ?_
          show Steps p.tables e below (s₁.setTop (mkF m 19 #[.val (.int p1)] [(.int p1)])) t
          refine X0.ldcInt hx hown (mvT hZ (own_wd hw 3 rfl)) (g := (mkF m 19 #[.val (.int p1)] [(.int p1)])) rfl (hb hby d2_19) _ ?_
          exact kt
        by_cases hc21 : (57343 : Int32) < p1
        · refine OGo.step (F' := s₁.setTop (mkF m 26 #[.val (.int p1)] [])) (fun t kt => ?_) ?_
          · show Steps p.tables e below (s₁.setTop (mkF m 21 #[.val (.int p1)] [(.int (57343 : Int32)), (.int p1)])) t
            refine XS.icmpYes X0.here hx rfl (pc0 := 21) (pc' := 26) rfl (hb hby d2_21) rfl (tlt hc21).2.2.1 (by decide) (by decide) ?_
            exact kt
          refine OGo.step (F' := s₁.setTop (mkF m 29 #[.val (.int p1)] [(.int (65534 : Int32)), (.int p1)])) (fun t kt => ?_) ?_
          · show Steps p.tables e below (s₁.setTop (mkF m 26 #[.val (.int p1)] [])) t
            refine XS.iloadN X0.here hx rfl (hb hby d2_26) rfl ?_
            show Steps p.tables e below (s₁.setTop (mkF m 27 #[.val (.int p1)] [(.int p1)])) t
            refine X0.ldcInt hx hown (mvT hZ (own_wd hw 21 rfl)) (g := (mkF m 27 #[.val (.int p1)] [(.int p1)])) rfl (hb hby d2_27) _ ?_
            exact kt
          by_cases hc29 : p1 = (65534 : Int32)
          · refine OGo.step (F' := s₁.setTop (mkF m 38 #[.val (.int p1)] [])) (fun t kt => ?_) ?_
            · show Steps p.tables e below (s₁.setTop (mkF m 29 #[.val (.int p1)] [(.int (65534 : Int32)), (.int p1)])) t
              refine XS.icmpYes X0.here hx rfl (pc0 := 29) (pc' := 38) rfl (hb hby d2_29) rfl (teq hc29).1 (by decide) (by decide) ?_
              exact kt
            refine OGo.step (F' := s₁.setTop (mkF m 39 #[.val (.int p1)] [(.int (0 : Int32))])) (fun t kt => ?_) ?_
            · show Steps p.tables e below (s₁.setTop (mkF m 38 #[.val (.int p1)] [])) t
              refine XS.iconst X0.here hx rfl (hb hby d2_38) ?_
              exact kt
            refine OGo.retZ X0 hx hlk (t := .boolean) (z' := (0 : Int32)) hret (by simp) (hb hby d2_39) rfl ?_ (by decide) (by decide)
            exact ⟨(by rw [f2, if_neg hc1, if_neg hc7, if_neg hc15, if_pos hc21, if_pos hc29]), N0, e0⟩
          · refine OGo.step (F' := s₁.setTop (mkF m 32 #[.val (.int p1)] [])) (fun t kt => ?_) ?_
            · show Steps p.tables e below (s₁.setTop (mkF m 29 #[.val (.int p1)] [(.int (65534 : Int32)), (.int p1)])) t
              refine XS.icmpNo X0.here hx rfl (hb hby d2_29) rfl (feq hc29).1 ?_
              exact kt
            refine OGo.step (F' := s₁.setTop (mkF m 35 #[.val (.int p1)] [(.int (65535 : Int32)), (.int p1)])) (fun t kt => ?_) ?_
            · show Steps p.tables e below (s₁.setTop (mkF m 32 #[.val (.int p1)] [])) t
              refine XS.iloadN X0.here hx rfl (hb hby d2_32) rfl ?_
              show Steps p.tables e below (s₁.setTop (mkF m 33 #[.val (.int p1)] [(.int p1)])) t
              refine X0.ldcInt hx hown (mvT hZ (own_wd hw 6 rfl)) (g := (mkF m 33 #[.val (.int p1)] [(.int p1)])) rfl (hb hby d2_33) _ ?_
              exact kt
            by_cases hc35 : p1 = (65535 : Int32)
            · refine OGo.step (F' := s₁.setTop (mkF m 38 #[.val (.int p1)] [])) (fun t kt => ?_) ?_
              · show Steps p.tables e below (s₁.setTop (mkF m 35 #[.val (.int p1)] [(.int (65535 : Int32)), (.int p1)])) t
                refine XS.icmpNo X0.here hx rfl (hb hby d2_35) rfl (teq hc35).2 ?_
                exact kt
              refine OGo.step (F' := s₁.setTop (mkF m 39 #[.val (.int p1)] [(.int (0 : Int32))])) (fun t kt => ?_) ?_
              · show Steps p.tables e below (s₁.setTop (mkF m 38 #[.val (.int p1)] [])) t
                refine XS.iconst X0.here hx rfl (hb hby d2_38) ?_
                exact kt
              refine OGo.retZ X0 hx hlk (t := .boolean) (z' := (0 : Int32)) hret (by simp) (hb hby d2_39) rfl ?_ (by decide) (by decide)
              exact ⟨(by rw [f2, if_neg hc1, if_neg hc7, if_neg hc15, if_pos hc21, if_neg hc29, if_pos hc35]), N0, e0⟩
            · refine OGo.step (F' := s₁.setTop (mkF m 40 #[.val (.int p1)] [])) (fun t kt => ?_) ?_
              · show Steps p.tables e below (s₁.setTop (mkF m 35 #[.val (.int p1)] [(.int (65535 : Int32)), (.int p1)])) t
                refine XS.icmpYes X0.here hx rfl (pc0 := 35) (pc' := 40) rfl (hb hby d2_35) rfl (feq hc35).2 (by decide) (by decide) ?_
                exact kt
              refine OGo.step (F' := s₁.setTop (mkF m 43 #[.val (.int p1)] [(.int (32 : Int32)), (.int p1)])) (fun t kt => ?_) ?_
              · show Steps p.tables e below (s₁.setTop (mkF m 40 #[.val (.int p1)] [])) t
                refine XS.iloadN X0.here hx rfl (hb hby d2_40) rfl ?_
                show Steps p.tables e below (s₁.setTop (mkF m 41 #[.val (.int p1)] [(.int p1)])) t
                refine XS.bipush X0.here hx rfl (hb hby d2_41) ?_
                exact kt
              by_cases hc43 : p1 < (32 : Int32)
              · refine OGo.step (F' := s₁.setTop (mkF m 46 #[.val (.int p1)] [])) (fun t kt => ?_) ?_
                · show Steps p.tables e below (s₁.setTop (mkF m 43 #[.val (.int p1)] [(.int (32 : Int32)), (.int p1)])) t
                  refine XS.icmpNo X0.here hx rfl (hb hby d2_43) rfl (tlt hc43).2.1 ?_
                  exact kt
                refine OGo.step (F' := s₁.setTop (mkF m 49 #[.val (.int p1)] [(.int (9 : Int32)), (.int p1)])) (fun t kt => ?_) ?_
                · show Steps p.tables e below (s₁.setTop (mkF m 46 #[.val (.int p1)] [])) t
                  refine XS.iloadN X0.here hx rfl (hb hby d2_46) rfl ?_
                  show Steps p.tables e below (s₁.setTop (mkF m 47 #[.val (.int p1)] [(.int p1)])) t
                  refine XS.bipush X0.here hx rfl (hb hby d2_47) ?_
                  exact kt
                by_cases hc49 : p1 = (9 : Int32)
                · refine OGo.step (F' := s₁.setTop (mkF m 64 #[.val (.int p1)] [])) (fun t kt => ?_) ?_
                  · show Steps p.tables e below (s₁.setTop (mkF m 49 #[.val (.int p1)] [(.int (9 : Int32)), (.int p1)])) t
                    refine XS.icmpYes X0.here hx rfl (pc0 := 49) (pc' := 64) rfl (hb hby d2_49) rfl (teq hc49).1 (by decide) (by decide) ?_
                    exact kt
                  refine OGo.step (F' := s₁.setTop (mkF m 69 #[.val (.int p1)] [(.int (1 : Int32))])) (fun t kt => ?_) ?_
                  · show Steps p.tables e below (s₁.setTop (mkF m 64 #[.val (.int p1)] [])) t
                    refine XS.iconst X0.here hx rfl (hb hby d2_64) ?_
                    show Steps p.tables e below (s₁.setTop (mkF m 65 #[.val (.int p1)] [(.int (1 : Int32))])) t
                    refine XS.goto X0.here hx rfl (pc0 := 65) (pc' := 69) rfl (hb hby d2_65) (by decide) (by decide) ?_
                    exact kt
                  refine OGo.retZ X0 hx hlk (t := .boolean) (z' := (1 : Int32)) hret (by simp) (hb hby d2_69) rfl ?_ (by decide) (by decide)
                  exact ⟨(by rw [f2, if_neg hc1, if_neg hc7, if_neg hc15, if_pos hc21, if_neg hc29, if_neg hc35, if_pos hc43, if_pos hc49]), N0, e0⟩
                · refine OGo.step (F' := s₁.setTop (mkF m 52 #[.val (.int p1)] [])) (fun t kt => ?_) ?_
                  · show Steps p.tables e below (s₁.setTop (mkF m 49 #[.val (.int p1)] [(.int (9 : Int32)), (.int p1)])) t
                    refine XS.icmpNo X0.here hx rfl (hb hby d2_49) rfl (feq hc49).1 ?_
                    exact kt
                  refine OGo.step (F' := s₁.setTop (mkF m 55 #[.val (.int p1)] [(.int (10 : Int32)), (.int p1)])) (fun t kt => ?_) ?_
                  · show Steps p.tables e below (s₁.setTop (mkF m 52 #[.val (.int p1)] [])) t
                    refine XS.iloadN X0.here hx rfl (hb hby d2_52) rfl ?_
                    show Steps p.tables e below (s₁.setTop (mkF m 53 #[.val (.int p1)] [(.int p1)])) t
                    refine XS.bipush X0.here hx rfl (hb hby d2_53) ?_
                    exact kt
                  by_cases hc55 : p1 = (10 : Int32)
                  · refine OGo.step (F' := s₁.setTop (mkF m 64 #[.val (.int p1)] [])) (fun t kt => ?_) ?_
                    · show Steps p.tables e below (s₁.setTop (mkF m 55 #[.val (.int p1)] [(.int (10 : Int32)), (.int p1)])) t
                      refine XS.icmpYes X0.here hx rfl (pc0 := 55) (pc' := 64) rfl (hb hby d2_55) rfl (teq hc55).1 (by decide) (by decide) ?_
                      exact kt
                    refine OGo.step (F' := s₁.setTop (mkF m 69 #[.val (.int p1)] [(.int (1 : Int32))])) (fun t kt => ?_) ?_
                    · show Steps p.tables e below (s₁.setTop (mkF m 64 #[.val (.int p1)] [])) t
                      refine XS.iconst X0.here hx rfl (hb hby d2_64) ?_
                      show Steps p.tables e below (s₁.setTop (mkF m 65 #[.val (.int p1)] [(.int (1 : Int32))])) t
                      refine XS.goto X0.here hx rfl (pc0 := 65) (pc' := 69) rfl (hb hby d2_65) (by decide) (by decide) ?_
                      exact kt
                    refine OGo.retZ X0 hx hlk (t := .boolean) (z' := (1 : Int32)) hret (by simp) (hb hby d2_69) rfl ?_ (by decide) (by decide)
                    exact ⟨(by rw [f2, if_neg hc1, if_neg hc7, if_neg hc15, if_pos hc21, if_neg hc29, if_neg hc35, if_pos hc43, if_neg hc49, if_pos hc55]), N0, e0⟩
                  · refine OGo.step (F' := s₁.setTop (mkF m 58 #[.val (.int p1)] [])) (fun t kt => ?_) ?_
                    · show Steps p.tables e below (s₁.setTop (mkF m 55 #[.val (.int p1)] [(.int (10 : Int32)), (.int p1)])) t
                      refine XS.icmpNo X0.here hx rfl (hb hby d2_55) rfl (feq hc55).1 ?_
                      exact kt
                    refine OGo.step (F' := s₁.setTop (mkF m 61 #[.val (.int p1)] [(.int (13 : Int32)), (.int p1)])) (fun t kt => ?_) ?_
                    · show Steps p.tables e below (s₁.setTop (mkF m 58 #[.val (.int p1)] [])) t
                      refine XS.iloadN X0.here hx rfl (hb hby d2_58) rfl ?_
                      show Steps p.tables e below (s₁.setTop (mkF m 59 #[.val (.int p1)] [(.int p1)])) t
                      refine XS.bipush X0.here hx rfl (hb hby d2_59) ?_
                      exact kt
                    by_cases hc61 : p1 = (13 : Int32)
                    · refine OGo.step (F' := s₁.setTop (mkF m 64 #[.val (.int p1)] [])) (fun t kt => ?_) ?_
                      · show Steps p.tables e below (s₁.setTop (mkF m 61 #[.val (.int p1)] [(.int (13 : Int32)), (.int p1)])) t
                        refine XS.icmpNo X0.here hx rfl (hb hby d2_61) rfl (teq hc61).2 ?_
                        exact kt
                      refine OGo.step (F' := s₁.setTop (mkF m 69 #[.val (.int p1)] [(.int (1 : Int32))])) (fun t kt => ?_) ?_
                      · show Steps p.tables e below (s₁.setTop (mkF m 64 #[.val (.int p1)] [])) t
                        refine XS.iconst X0.here hx rfl (hb hby d2_64) ?_
                        show Steps p.tables e below (s₁.setTop (mkF m 65 #[.val (.int p1)] [(.int (1 : Int32))])) t
                        refine XS.goto X0.here hx rfl (pc0 := 65) (pc' := 69) rfl (hb hby d2_65) (by decide) (by decide) ?_
                        exact kt
                      refine OGo.retZ X0 hx hlk (t := .boolean) (z' := (1 : Int32)) hret (by simp) (hb hby d2_69) rfl ?_ (by decide) (by decide)
                      exact ⟨(by rw [f2, if_neg hc1, if_neg hc7, if_neg hc15, if_pos hc21, if_neg hc29, if_neg hc35, if_pos hc43, if_neg hc49, if_neg hc55, if_pos hc61]), N0, e0⟩
                    · refine OGo.step (F' := s₁.setTop (mkF m 68 #[.val (.int p1)] [])) (fun t kt => ?_) ?_
                      · show Steps p.tables e below (s₁.setTop (mkF m 61 #[.val (.int p1)] [(.int (13 : Int32)), (.int p1)])) t
                        refine XS.icmpYes X0.here hx rfl (pc0 := 61) (pc' := 68) rfl (hb hby d2_61) rfl (feq hc61).2 (by decide) (by decide) ?_
                        exact kt
                      refine OGo.step (F' := s₁.setTop (mkF m 69 #[.val (.int p1)] [(.int (0 : Int32))])) (fun t kt => ?_) ?_
                      · show Steps p.tables e below (s₁.setTop (mkF m 68 #[.val (.int p1)] [])) t
                        refine XS.iconst X0.here hx rfl (hb hby d2_68) ?_
                        exact kt
                      refine OGo.retZ X0 hx hlk (t := .boolean) (z' := (0 : Int32)) hret (by simp) (hb hby d2_69) rfl ?_ (by decide) (by decide)
                      exact ⟨(by rw [f2, if_neg hc1, if_neg hc7, if_neg hc15, if_pos hc21, if_neg hc29, if_neg hc35, if_pos hc43, if_neg hc49, if_neg hc55, if_neg hc61]), N0, e0⟩
              · refine OGo.step (F' := s₁.setTop (mkF m 70 #[.val (.int p1)] [])) (fun t kt => ?_) ?_
                · show Steps p.tables e below (s₁.setTop (mkF m 43 #[.val (.int p1)] [(.int (32 : Int32)), (.int p1)])) t
                  refine XS.icmpYes X0.here hx rfl (pc0 := 43) (pc' := 70) rfl (hb hby d2_43) rfl (flt hc43).2.1 (by decide) (by decide) ?_
                  exact kt
                refine OGo.step (F' := s₁.setTop (mkF m 71 #[.val (.int p1)] [(.int (1 : Int32))])) (fun t kt => ?_) ?_
                · show Steps p.tables e below (s₁.setTop (mkF m 70 #[.val (.int p1)] [])) t
                  refine XS.iconst X0.here hx rfl (hb hby d2_70) ?_
                  exact kt
                refine OGo.retZ X0 hx hlk (t := .boolean) (z' := (1 : Int32)) hret (by simp) (hb hby d2_71) rfl ?_ (by decide) (by decide)
                exact ⟨(by rw [f2, if_neg hc1, if_neg hc7, if_neg hc15, if_pos hc21, if_neg hc29, if_neg hc35, if_neg hc43]), N0, e0⟩
        · refine OGo.step (F' := s₁.setTop (mkF m 24 #[.val (.int p1)] [])) (fun t kt => ?_) ?_
          · show Steps p.tables e below (s₁.setTop (mkF m 21 #[.val (.int p1)] [(.int (57343 : Int32)), (.int p1)])) t
            refine XS.icmpNo X0.here hx rfl (hb hby d2_21) rfl (flt hc21).2.2.1 ?_
            exact kt
          refine OGo.step (F' := s₁.setTop (mkF m 25 #[.val (.int p1)] [(.int (0 : Int32))])) (fun t kt => ?_) ?_
          · show Steps p.tables e below (s₁.setTop (mkF m 24 #[.val (.int p1)] [])) t
            refine XS.iconst X0.here hx rfl (hb hby d2_24) ?_
            exact kt
          refine OGo.retZ X0 hx hlk (t := .boolean) (z' := (0 : Int32)) hret (by simp) (hb hby d2_25) rfl ?_ (by decide) (by decide)
          exact ⟨(by rw [f2, if_neg hc1, if_neg hc7, if_neg hc15, if_neg hc21]), N0, e0⟩
set_option maxHeartbeats 8000000 in
theorem own_same (v : Int32) : f1 v = f2 v := by
  unfold f1 f2
  simp only [Int32.lt_iff_toInt_lt, ← Int32.toInt_inj, Int32.reduceToInt]
  have h1 := v.le_toInt; have h2 := v.toInt_lt
  generalize v.toInt = z at *
  repeat' split
  all_goals first | rfl | omega
def own_pick (xs : List Int32) (i : Int32) : Int32 := xs.getD i.toNatClampNeg 0
theorem own_pick_at (xs : List Int32) (i : Nat) : (xs.map Value.int).getD i (.int 0) = .int (xs.getD i 0) := by
  simp only [List.getD_eq_getElem?_getD, List.getElem?_map]
  cases xs[i]? <;> rfl
theorem own_ix (r : Int32) : ¬ (((r.toUInt32 >>> (((1 : Int32) &&& 31).toUInt32)).toInt32 &&& (2147483647 : Int32)) % (14 : Int32)) < 0 ∧ (((r.toUInt32 >>> (((1 : Int32) &&& 31).toUInt32)).toInt32 &&& (2147483647 : Int32)) % (14 : Int32)) < 14 := by
  generalize (r.toUInt32 >>> (((1 : Int32) &&& 31).toUInt32)).toInt32 = y
  have h0 := (c_andS y (2147483647 : Int32)).2.2 (by decide)
  generalize y &&& (2147483647 : Int32) = w at *
  have e := (c_irem w (14 : Int32) 14 rfl).1 h0
  simp only [Int32.lt_iff_toInt_lt, e, Int32.reduceToInt]
  omega
/-! body 0: com/example/cadmus/cadmus/xdm/XmlCharsIsCharPinLaw.law:(III)Z -/
theorem pn_0 : plainName "com/example/cadmus/cadmus/xdm/XmlCharsIsCharPinLaw" = true := by first | (simp [plainName, overriddenIn]; done) | decide +kernel
theorem pd_0_0 : parseMethodDescriptor "(I)Z" = some ⟨[.int], some .boolean⟩ := by decide +kernel
theorem ef_0 (m : MethodId) (x0 : Int32) (x1 : Int32) (x2 : Int32) : entryFrame m #[(.int x0), (.int x1), (.int x2)] maxLocals = mkF m 0 #[.val (.int x0), .val (.int x1), .val (.int x2), .unset, .unset, .unset] [] := by first | (simp [entryFrame, mkF, argsToLocals, Value.category, maxLocals]; done) | rfl
def f0 (p0 : Int32) (p1 : Int32) (p2 : Int32) : Int32 :=
  if (p1 &&& (1 : Int32)) = (0 : Int32) then (if (f1 p0) = (f2 p0) then (1 : Int32)
    else (0 : Int32))
  else if (f1 ((own_pick [(0 : Int32), (9 : Int32), (13 : Int32), (32 : Int32), (55295 : Int32), (55296 : Int32), (57343 : Int32), (57344 : Int32), (65533 : Int32), (65535 : Int32), (65536 : Int32), (1114111 : Int32), (-2147483648 : Int32), (2147483647 : Int32)] ((((p1.toUInt32 >>> ((1 : Int32) &&& 31).toUInt32).toInt32) &&& (2147483647 : Int32)) % (14 : Int32))) + ((p2 &&& (7 : Int32)) - (4 : Int32)))) = (f2 ((own_pick [(0 : Int32), (9 : Int32), (13 : Int32), (32 : Int32), (55295 : Int32), (55296 : Int32), (57343 : Int32), (57344 : Int32), (65533 : Int32), (65535 : Int32), (65536 : Int32), (1114111 : Int32), (-2147483648 : Int32), (2147483647 : Int32)] ((((p1.toUInt32 >>> ((1 : Int32) &&& 31).toUInt32).toInt32) &&& (2147483647 : Int32)) % (14 : Int32))) + ((p2 &&& (7 : Int32)) - (4 : Int32)))) then (1 : Int32)
    else (0 : Int32)
theorem fb0 (p0 : Int32) (p1 : Int32) (p2 : Int32) : nar .boolean (f0 p0 p1 p2) = (f0 p0 p1 p2) := by
  unfold f0
  repeat' split
  all_goals first | rfl | decide
def Q0 (Z : State) (p0 : Int32) (p1 : Int32) (p2 : Int32) (h0 : Heap) (n0 : Nat) (v : Option Value) (h : Heap) (L : List Loc) : Prop := v = some (.int (f0 p0 p1 p2)) ∧ Fr n0 L ∧ Keep h0 h []
set_option maxRecDepth 65536 in
set_option maxHeartbeats 40000000 in
theorem rm0 (l : Launch) (Z : State) (az : Array Value) (hw : ∀ d ∈ tables_1, d.before az Z = true) (ws : List Jvm.Cond) (p0 : Int32) (p1 : Int32) (p2 : Int32) (h0 : Heap) (n0 : Nat) (Z0 : n0 ≤ h0.size) :
    OCtr l Z x code maxLocals ret ws room_1 #[(.int p0), (.int p1), (.int p2)] h0 (Q0 Z p0 p1 p2 h0 n0) := by
  refine OCtr.of (plainFor_of_name pn_0) ?_
  intro p e s m below meth c s₁ X0 hx hlk hZ hown0 hnm hby hml0 hret e0
  have hown : s.vm.findClass "com/example/cadmus/cadmus/xdm/XmlCharsIsCharPinLaw" = some m.cls := hown0
  have hml : c.maxLocals = 6 := hml0
  have N0 := Fr.nil n0
  refine OGo.step (fun t k => castTop (ef_0 m p0 p1 p2) k) ?_
  refine OGo.step (F' := s₁.setTop (mkF m 2 #[.val (.int p0), .val (.int p1), .val (.int p2), .unset, .unset, .unset] [(.int (14 : Int32))])) (fun t kt => ?_) ?_
  · show Steps p.tables e below (s₁.setTop (mkF m 0 #[.val (.int p0), .val (.int p1), .val (.int p2), .unset, .unset, .unset] [])) t
    refine XS.bipush X0.here hx rfl (hb hby at_0) ?_
    exact kt
  obtain ⟨T1, h1, k1, X1, e1, E1, A1, st1⟩ := newP X0 hx hZ (own_wd hw 0 rfl) e0 (g := (mkF m 2 #[.val (.int p0), .val (.int p1), .val (.int p2), .unset, .unset, .unset] [(.int (14 : Int32))])) rfl (hb hby at_2) rfl (by decide) (cap := 14) (by decide) (by decide) (by decide) (by decide)
  obtain ⟨b1, g1⟩ : ∃ z, z = h0.size := ⟨_, rfl⟩
  rw [← g1] at A1 st1
  have sz_b1 : h0.size ≤ b1 := Nat.le_trans (Keep.refl h0 []).1 (Nat.le_of_eq g1.symm)
  have gn_b1 : n0 ≤ b1 := Nat.le_trans Z0 sz_b1
  have KC1 : Keep h0 h1 [] := (Keep.refl h0 []).ext E1
  have V1 : Arv Z h1 b1 k1 .int (14 : Int32) [(.int (0 : Int32)), (.int (0 : Int32)), (.int (0 : Int32)), (.int (0 : Int32)), (.int (0 : Int32)), (.int (0 : Int32)), (.int (0 : Int32)), (.int (0 : Int32)), (.int (0 : Int32)), (.int (0 : Int32)), (.int (0 : Int32)), (.int (0 : Int32)), (.int (0 : Int32)), (.int (0 : Int32))] (.int (0 : Int32)) := (Arv.new A1 (by decide)).pad (pad_rep [] (.int (0 : Int32)) 14)
  refine OGo.step st1 ?_
  show OGo _ _ _ _ _ _ _ (T1.setTop (mkF m 4 #[.val (.int p0), .val (.int p1), .val (.int p2), .unset, .unset, .unset] [(.ref b1)]))
  refine OGo.step (F' := T1.setTop (mkF m 7 #[.val (.int p0), .val (.int p1), .val (.int p2), .unset, .unset, .unset] [(.int (0 : Int32)), (.int (0 : Int32)), (.ref b1), (.ref b1)])) (fun t kt => ?_) ?_
  · show Steps p.tables e below (T1.setTop (mkF m 4 #[.val (.int p0), .val (.int p1), .val (.int p2), .unset, .unset, .unset] [(.ref b1)])) t
    refine XS.dup X1.here hx rfl (hb hby at_4) rfl rfl ?_
    show Steps p.tables e below (T1.setTop (mkF m 5 #[.val (.int p0), .val (.int p1), .val (.int p2), .unset, .unset, .unset] [(.ref b1), (.ref b1)])) t
    refine XS.iconst X1.here hx rfl (hb hby at_5) ?_
    show Steps p.tables e below (T1.setTop (mkF m 6 #[.val (.int p0), .val (.int p1), .val (.int p2), .unset, .unset, .unset] [(.int (0 : Int32)), (.ref b1), (.ref b1)])) t
    refine XS.iconst X1.here hx rfl (hb hby at_6) ?_
    exact kt
  obtain ⟨cl2, Ar2, q2, S2, N2a, H2, G2⟩ := id (V1)
  have hin2 : ¬ ((0 : Int32) < 0 ∨ cl2.slots.size ≤ ((0 : Int32)).toNatClampNeg) := inb_of S2 ⟨by decide, by decide⟩
  obtain ⟨T2, h2, X2, e2, W2, st2⟩ := stI X1 hx hZ e1 Ar2 (j := (0 : Int32)) hin2 (g := (mkF m 7 #[.val (.int p0), .val (.int p1), .val (.int p2), .unset, .unset, .unset] [(.int (0 : Int32)), (.int (0 : Int32)), (.ref b1), (.ref b1)])) rfl rfl (hb hby at_7)
  have V2 : Arv Z h2 b1 k1 .int (14 : Int32) [(.int (0 : Int32)), (.int (0 : Int32)), (.int (0 : Int32)), (.int (0 : Int32)), (.int (0 : Int32)), (.int (0 : Int32)), (.int (0 : Int32)), (.int (0 : Int32)), (.int (0 : Int32)), (.int (0 : Int32)), (.int (0 : Int32)), (.int (0 : Int32)), (.int (0 : Int32)), (.int (0 : Int32))] (.int (0 : Int32)) := Arv.set Ar2 q2 S2 N2a H2 G2 rfl W2 0 rfl (Nat.le_of_ble_eq_true rfl)
  have KC2 : Keep h0 h2 [] := KC1.wr W2 (Or.inr sz_b1)
  have N2 := Fr.snoc X2 N0 gn_b1
  refine OGo.step st2 ?_
  show OGo _ _ _ _ _ _ _ (T2.setTop (mkF m 8 #[.val (.int p0), .val (.int p1), .val (.int p2), .unset, .unset, .unset] [(.ref b1)]))
  refine OGo.step (F' := T2.setTop (mkF m 12 #[.val (.int p0), .val (.int p1), .val (.int p2), .unset, .unset, .unset] [(.int (9 : Int32)), (.int (1 : Int32)), (.ref b1), (.ref b1)])) (fun t kt => ?_) ?_
  · show Steps p.tables e below (T2.setTop (mkF m 8 #[.val (.int p0), .val (.int p1), .val (.int p2), .unset, .unset, .unset] [(.ref b1)])) t
    refine XS.dup X2.here hx rfl (hb hby at_8) rfl rfl ?_
    show Steps p.tables e below (T2.setTop (mkF m 9 #[.val (.int p0), .val (.int p1), .val (.int p2), .unset, .unset, .unset] [(.ref b1), (.ref b1)])) t
    refine XS.iconst X2.here hx rfl (hb hby at_9) ?_
    show Steps p.tables e below (T2.setTop (mkF m 10 #[.val (.int p0), .val (.int p1), .val (.int p2), .unset, .unset, .unset] [(.int (1 : Int32)), (.ref b1), (.ref b1)])) t
    refine XS.bipush X2.here hx rfl (hb hby at_10) ?_
    exact kt
  obtain ⟨cl3, Ar3, q3, S3, N3a, H3, G3⟩ := id (V2)
  have hin3 : ¬ ((1 : Int32) < 0 ∨ cl3.slots.size ≤ ((1 : Int32)).toNatClampNeg) := inb_of S3 ⟨by decide, by decide⟩
  obtain ⟨T3, h3, X3, e3, W3, st3⟩ := stI X2 hx hZ e2 Ar3 (j := (1 : Int32)) hin3 (g := (mkF m 12 #[.val (.int p0), .val (.int p1), .val (.int p2), .unset, .unset, .unset] [(.int (9 : Int32)), (.int (1 : Int32)), (.ref b1), (.ref b1)])) rfl rfl (hb hby at_12)
  have V3 : Arv Z h3 b1 k1 .int (14 : Int32) [(.int (0 : Int32)), (.int (9 : Int32)), (.int (0 : Int32)), (.int (0 : Int32)), (.int (0 : Int32)), (.int (0 : Int32)), (.int (0 : Int32)), (.int (0 : Int32)), (.int (0 : Int32)), (.int (0 : Int32)), (.int (0 : Int32)), (.int (0 : Int32)), (.int (0 : Int32)), (.int (0 : Int32))] (.int (0 : Int32)) := Arv.set Ar3 q3 S3 N3a H3 G3 rfl W3 1 rfl (Nat.le_of_ble_eq_true rfl)
  have KC3 : Keep h0 h3 [] := KC2.wr W3 (Or.inr sz_b1)
  have N3 := Fr.snoc X3 N2 gn_b1
  refine OGo.step st3 ?_
  show OGo _ _ _ _ _ _ _ (T3.setTop (mkF m 13 #[.val (.int p0), .val (.int p1), .val (.int p2), .unset, .unset, .unset] [(.ref b1)]))
  refine OGo.step (F' := T3.setTop (mkF m 17 #[.val (.int p0), .val (.int p1), .val (.int p2), .unset, .unset, .unset] [(.int (13 : Int32)), (.int (2 : Int32)), (.ref b1), (.ref b1)])) (fun t kt => ?_) ?_
  · show Steps p.tables e below (T3.setTop (mkF m 13 #[.val (.int p0), .val (.int p1), .val (.int p2), .unset, .unset, .unset] [(.ref b1)])) t
    refine XS.dup X3.here hx rfl (hb hby at_13) rfl rfl ?_
    show Steps p.tables e below (T3.setTop (mkF m 14 #[.val (.int p0), .val (.int p1), .val (.int p2), .unset, .unset, .unset] [(.ref b1), (.ref b1)])) t
    refine XS.iconst X3.here hx rfl (hb hby at_14) ?_
    show Steps p.tables e below (T3.setTop (mkF m 15 #[.val (.int p0), .val (.int p1), .val (.int p2), .unset, .unset, .unset] [(.int (2 : Int32)), (.ref b1), (.ref b1)])) t
    refine XS.bipush X3.here hx rfl (hb hby at_15) ?_
    exact kt
  obtain ⟨cl4, Ar4, q4, S4, N4a, H4, G4⟩ := id (V3)
  have hin4 : ¬ ((2 : Int32) < 0 ∨ cl4.slots.size ≤ ((2 : Int32)).toNatClampNeg) := inb_of S4 ⟨by decide, by decide⟩
  obtain ⟨T4, h4, X4, e4, W4, st4⟩ := stI X3 hx hZ e3 Ar4 (j := (2 : Int32)) hin4 (g := (mkF m 17 #[.val (.int p0), .val (.int p1), .val (.int p2), .unset, .unset, .unset] [(.int (13 : Int32)), (.int (2 : Int32)), (.ref b1), (.ref b1)])) rfl rfl (hb hby at_17)
  have V4 : Arv Z h4 b1 k1 .int (14 : Int32) [(.int (0 : Int32)), (.int (9 : Int32)), (.int (13 : Int32)), (.int (0 : Int32)), (.int (0 : Int32)), (.int (0 : Int32)), (.int (0 : Int32)), (.int (0 : Int32)), (.int (0 : Int32)), (.int (0 : Int32)), (.int (0 : Int32)), (.int (0 : Int32)), (.int (0 : Int32)), (.int (0 : Int32))] (.int (0 : Int32)) := Arv.set Ar4 q4 S4 N4a H4 G4 rfl W4 2 rfl (Nat.le_of_ble_eq_true rfl)
  have KC4 : Keep h0 h4 [] := KC3.wr W4 (Or.inr sz_b1)
  have N4 := Fr.snoc X4 N3 gn_b1
  refine OGo.step st4 ?_
  show OGo _ _ _ _ _ _ _ (T4.setTop (mkF m 18 #[.val (.int p0), .val (.int p1), .val (.int p2), .unset, .unset, .unset] [(.ref b1)]))
  refine OGo.step (F' := T4.setTop (mkF m 22 #[.val (.int p0), .val (.int p1), .val (.int p2), .unset, .unset, .unset] [(.int (32 : Int32)), (.int (3 : Int32)), (.ref b1), (.ref b1)])) (fun t kt => ?_) ?_
  · show Steps p.tables e below (T4.setTop (mkF m 18 #[.val (.int p0), .val (.int p1), .val (.int p2), .unset, .unset, .unset] [(.ref b1)])) t
    refine XS.dup X4.here hx rfl (hb hby at_18) rfl rfl ?_
    show Steps p.tables e below (T4.setTop (mkF m 19 #[.val (.int p0), .val (.int p1), .val (.int p2), .unset, .unset, .unset] [(.ref b1), (.ref b1)])) t
    refine XS.iconst X4.here hx rfl (hb hby at_19) ?_
    show Steps p.tables e below (T4.setTop (mkF m 20 #[.val (.int p0), .val (.int p1), .val (.int p2), .unset, .unset, .unset] [(.int (3 : Int32)), (.ref b1), (.ref b1)])) t
    refine XS.bipush X4.here hx rfl (hb hby at_20) ?_
    exact kt
  obtain ⟨cl5, Ar5, q5, S5, N5a, H5, G5⟩ := id (V4)
  have hin5 : ¬ ((3 : Int32) < 0 ∨ cl5.slots.size ≤ ((3 : Int32)).toNatClampNeg) := inb_of S5 ⟨by decide, by decide⟩
  obtain ⟨T5, h5, X5, e5, W5, st5⟩ := stI X4 hx hZ e4 Ar5 (j := (3 : Int32)) hin5 (g := (mkF m 22 #[.val (.int p0), .val (.int p1), .val (.int p2), .unset, .unset, .unset] [(.int (32 : Int32)), (.int (3 : Int32)), (.ref b1), (.ref b1)])) rfl rfl (hb hby at_22)
  have V5 : Arv Z h5 b1 k1 .int (14 : Int32) [(.int (0 : Int32)), (.int (9 : Int32)), (.int (13 : Int32)), (.int (32 : Int32)), (.int (0 : Int32)), (.int (0 : Int32)), (.int (0 : Int32)), (.int (0 : Int32)), (.int (0 : Int32)), (.int (0 : Int32)), (.int (0 : Int32)), (.int (0 : Int32)), (.int (0 : Int32)), (.int (0 : Int32))] (.int (0 : Int32)) := Arv.set Ar5 q5 S5 N5a H5 G5 rfl W5 3 rfl (Nat.le_of_ble_eq_true rfl)
  have KC5 : Keep h0 h5 [] := KC4.wr W5 (Or.inr sz_b1)
  have N5 := Fr.snoc X5 N4 gn_b1
  refine OGo.step st5 ?_
  show OGo _ _ _ _ _ _ _ (T5.setTop (mkF m 23 #[.val (.int p0), .val (.int p1), .val (.int p2), .unset, .unset, .unset] [(.ref b1)]))
  refine OGo.step (F' := T5.setTop (mkF m 27 #[.val (.int p0), .val (.int p1), .val (.int p2), .unset, .unset, .unset] [(.int (55295 : Int32)), (.int (4 : Int32)), (.ref b1), (.ref b1)])) (fun t kt => ?_) ?_
  · show Steps p.tables e below (T5.setTop (mkF m 23 #[.val (.int p0), .val (.int p1), .val (.int p2), .unset, .unset, .unset] [(.ref b1)])) t
    refine XS.dup X5.here hx rfl (hb hby at_23) rfl rfl ?_
    show Steps p.tables e below (T5.setTop (mkF m 24 #[.val (.int p0), .val (.int p1), .val (.int p2), .unset, .unset, .unset] [(.ref b1), (.ref b1)])) t
    refine XS.iconst X5.here hx rfl (hb hby at_24) ?_
    show Steps p.tables e below (T5.setTop (mkF m 25 #[.val (.int p0), .val (.int p1), .val (.int p2), .unset, .unset, .unset] [(.int (4 : Int32)), (.ref b1), (.ref b1)])) t
    refine X5.ldcInt hx hown (mvT hZ (own_wd hw 1 rfl)) (g := (mkF m 25 #[.val (.int p0), .val (.int p1), .val (.int p2), .unset, .unset, .unset] [(.int (4 : Int32)), (.ref b1), (.ref b1)])) rfl (hb hby at_25) _ ?_
    exact kt
  obtain ⟨cl6, Ar6, q6, S6, N6a, H6, G6⟩ := id (V5)
  have hin6 : ¬ ((4 : Int32) < 0 ∨ cl6.slots.size ≤ ((4 : Int32)).toNatClampNeg) := inb_of S6 ⟨by decide, by decide⟩
  obtain ⟨T6, h6, X6, e6, W6, st6⟩ := stI X5 hx hZ e5 Ar6 (j := (4 : Int32)) hin6 (g := (mkF m 27 #[.val (.int p0), .val (.int p1), .val (.int p2), .unset, .unset, .unset] [(.int (55295 : Int32)), (.int (4 : Int32)), (.ref b1), (.ref b1)])) rfl rfl (hb hby at_27)
  have V6 : Arv Z h6 b1 k1 .int (14 : Int32) [(.int (0 : Int32)), (.int (9 : Int32)), (.int (13 : Int32)), (.int (32 : Int32)), (.int (55295 : Int32)), (.int (0 : Int32)), (.int (0 : Int32)), (.int (0 : Int32)), (.int (0 : Int32)), (.int (0 : Int32)), (.int (0 : Int32)), (.int (0 : Int32)), (.int (0 : Int32)), (.int (0 : Int32))] (.int (0 : Int32)) := Arv.set Ar6 q6 S6 N6a H6 G6 rfl W6 4 rfl (Nat.le_of_ble_eq_true rfl)
  have KC6 : Keep h0 h6 [] := KC5.wr W6 (Or.inr sz_b1)
  have N6 := Fr.snoc X6 N5 gn_b1
  refine OGo.step st6 ?_
  show OGo _ _ _ _ _ _ _ (T6.setTop (mkF m 28 #[.val (.int p0), .val (.int p1), .val (.int p2), .unset, .unset, .unset] [(.ref b1)]))
  refine OGo.step (F' := T6.setTop (mkF m 32 #[.val (.int p0), .val (.int p1), .val (.int p2), .unset, .unset, .unset] [(.int (55296 : Int32)), (.int (5 : Int32)), (.ref b1), (.ref b1)])) (fun t kt => ?_) ?_
  · show Steps p.tables e below (T6.setTop (mkF m 28 #[.val (.int p0), .val (.int p1), .val (.int p2), .unset, .unset, .unset] [(.ref b1)])) t
    refine XS.dup X6.here hx rfl (hb hby at_28) rfl rfl ?_
    show Steps p.tables e below (T6.setTop (mkF m 29 #[.val (.int p0), .val (.int p1), .val (.int p2), .unset, .unset, .unset] [(.ref b1), (.ref b1)])) t
    refine XS.iconst X6.here hx rfl (hb hby at_29) ?_
    show Steps p.tables e below (T6.setTop (mkF m 30 #[.val (.int p0), .val (.int p1), .val (.int p2), .unset, .unset, .unset] [(.int (5 : Int32)), (.ref b1), (.ref b1)])) t
    refine X6.ldcInt hx hown (mvT hZ (own_wd hw 2 rfl)) (g := (mkF m 30 #[.val (.int p0), .val (.int p1), .val (.int p2), .unset, .unset, .unset] [(.int (5 : Int32)), (.ref b1), (.ref b1)])) rfl (hb hby at_30) _ ?_
    exact kt
  obtain ⟨cl7, Ar7, q7, S7, N7a, H7, G7⟩ := id (V6)
  have hin7 : ¬ ((5 : Int32) < 0 ∨ cl7.slots.size ≤ ((5 : Int32)).toNatClampNeg) := inb_of S7 ⟨by decide, by decide⟩
  obtain ⟨T7, h7, X7, e7, W7, st7⟩ := stI X6 hx hZ e6 Ar7 (j := (5 : Int32)) hin7 (g := (mkF m 32 #[.val (.int p0), .val (.int p1), .val (.int p2), .unset, .unset, .unset] [(.int (55296 : Int32)), (.int (5 : Int32)), (.ref b1), (.ref b1)])) rfl rfl (hb hby at_32)
  have V7 : Arv Z h7 b1 k1 .int (14 : Int32) [(.int (0 : Int32)), (.int (9 : Int32)), (.int (13 : Int32)), (.int (32 : Int32)), (.int (55295 : Int32)), (.int (55296 : Int32)), (.int (0 : Int32)), (.int (0 : Int32)), (.int (0 : Int32)), (.int (0 : Int32)), (.int (0 : Int32)), (.int (0 : Int32)), (.int (0 : Int32)), (.int (0 : Int32))] (.int (0 : Int32)) := Arv.set Ar7 q7 S7 N7a H7 G7 rfl W7 5 rfl (Nat.le_of_ble_eq_true rfl)
  have KC7 : Keep h0 h7 [] := KC6.wr W7 (Or.inr sz_b1)
  have N7 := Fr.snoc X7 N6 gn_b1
  refine OGo.step st7 ?_
  show OGo _ _ _ _ _ _ _ (T7.setTop (mkF m 33 #[.val (.int p0), .val (.int p1), .val (.int p2), .unset, .unset, .unset] [(.ref b1)]))
  refine OGo.step (F' := T7.setTop (mkF m 38 #[.val (.int p0), .val (.int p1), .val (.int p2), .unset, .unset, .unset] [(.int (57343 : Int32)), (.int (6 : Int32)), (.ref b1), (.ref b1)])) (fun t kt => ?_) ?_
  · show Steps p.tables e below (T7.setTop (mkF m 33 #[.val (.int p0), .val (.int p1), .val (.int p2), .unset, .unset, .unset] [(.ref b1)])) t
    refine XS.dup X7.here hx rfl (hb hby at_33) rfl rfl ?_
    show Steps p.tables e below (T7.setTop (mkF m 34 #[.val (.int p0), .val (.int p1), .val (.int p2), .unset, .unset, .unset] [(.ref b1), (.ref b1)])) t
    refine XS.bipush X7.here hx rfl (hb hby at_34) ?_
    show Steps p.tables e below (T7.setTop (mkF m 36 #[.val (.int p0), .val (.int p1), .val (.int p2), .unset, .unset, .unset] [(.int (6 : Int32)), (.ref b1), (.ref b1)])) t
    refine X7.ldcInt hx hown (mvT hZ (own_wd hw 3 rfl)) (g := (mkF m 36 #[.val (.int p0), .val (.int p1), .val (.int p2), .unset, .unset, .unset] [(.int (6 : Int32)), (.ref b1), (.ref b1)])) rfl (hb hby at_36) _ ?_
    exact kt
  obtain ⟨cl8, Ar8, q8, S8, N8a, H8, G8⟩ := id (V7)
  have hin8 : ¬ ((6 : Int32) < 0 ∨ cl8.slots.size ≤ ((6 : Int32)).toNatClampNeg) := inb_of S8 ⟨by decide, by decide⟩
  obtain ⟨T8, h8, X8, e8, W8, st8⟩ := stI X7 hx hZ e7 Ar8 (j := (6 : Int32)) hin8 (g := (mkF m 38 #[.val (.int p0), .val (.int p1), .val (.int p2), .unset, .unset, .unset] [(.int (57343 : Int32)), (.int (6 : Int32)), (.ref b1), (.ref b1)])) rfl rfl (hb hby at_38)
  have V8 : Arv Z h8 b1 k1 .int (14 : Int32) [(.int (0 : Int32)), (.int (9 : Int32)), (.int (13 : Int32)), (.int (32 : Int32)), (.int (55295 : Int32)), (.int (55296 : Int32)), (.int (57343 : Int32)), (.int (0 : Int32)), (.int (0 : Int32)), (.int (0 : Int32)), (.int (0 : Int32)), (.int (0 : Int32)), (.int (0 : Int32)), (.int (0 : Int32))] (.int (0 : Int32)) := Arv.set Ar8 q8 S8 N8a H8 G8 rfl W8 6 rfl (Nat.le_of_ble_eq_true rfl)
  have KC8 : Keep h0 h8 [] := KC7.wr W8 (Or.inr sz_b1)
  have N8 := Fr.snoc X8 N7 gn_b1
  refine OGo.step st8 ?_
  show OGo _ _ _ _ _ _ _ (T8.setTop (mkF m 39 #[.val (.int p0), .val (.int p1), .val (.int p2), .unset, .unset, .unset] [(.ref b1)]))
  refine OGo.step (F' := T8.setTop (mkF m 44 #[.val (.int p0), .val (.int p1), .val (.int p2), .unset, .unset, .unset] [(.int (57344 : Int32)), (.int (7 : Int32)), (.ref b1), (.ref b1)])) (fun t kt => ?_) ?_
  · show Steps p.tables e below (T8.setTop (mkF m 39 #[.val (.int p0), .val (.int p1), .val (.int p2), .unset, .unset, .unset] [(.ref b1)])) t
    refine XS.dup X8.here hx rfl (hb hby at_39) rfl rfl ?_
    show Steps p.tables e below (T8.setTop (mkF m 40 #[.val (.int p0), .val (.int p1), .val (.int p2), .unset, .unset, .unset] [(.ref b1), (.ref b1)])) t
    refine XS.bipush X8.here hx rfl (hb hby at_40) ?_
    show Steps p.tables e below (T8.setTop (mkF m 42 #[.val (.int p0), .val (.int p1), .val (.int p2), .unset, .unset, .unset] [(.int (7 : Int32)), (.ref b1), (.ref b1)])) t
    refine X8.ldcInt hx hown (mvT hZ (own_wd hw 4 rfl)) (g := (mkF m 42 #[.val (.int p0), .val (.int p1), .val (.int p2), .unset, .unset, .unset] [(.int (7 : Int32)), (.ref b1), (.ref b1)])) rfl (hb hby at_42) _ ?_
    exact kt
  obtain ⟨cl9, Ar9, q9, S9, N9a, H9, G9⟩ := id (V8)
  have hin9 : ¬ ((7 : Int32) < 0 ∨ cl9.slots.size ≤ ((7 : Int32)).toNatClampNeg) := inb_of S9 ⟨by decide, by decide⟩
  obtain ⟨T9, h9, X9, e9, W9, st9⟩ := stI X8 hx hZ e8 Ar9 (j := (7 : Int32)) hin9 (g := (mkF m 44 #[.val (.int p0), .val (.int p1), .val (.int p2), .unset, .unset, .unset] [(.int (57344 : Int32)), (.int (7 : Int32)), (.ref b1), (.ref b1)])) rfl rfl (hb hby at_44)
  have V9 : Arv Z h9 b1 k1 .int (14 : Int32) [(.int (0 : Int32)), (.int (9 : Int32)), (.int (13 : Int32)), (.int (32 : Int32)), (.int (55295 : Int32)), (.int (55296 : Int32)), (.int (57343 : Int32)), (.int (57344 : Int32)), (.int (0 : Int32)), (.int (0 : Int32)), (.int (0 : Int32)), (.int (0 : Int32)), (.int (0 : Int32)), (.int (0 : Int32))] (.int (0 : Int32)) := Arv.set Ar9 q9 S9 N9a H9 G9 rfl W9 7 rfl (Nat.le_of_ble_eq_true rfl)
  have KC9 : Keep h0 h9 [] := KC8.wr W9 (Or.inr sz_b1)
  have N9 := Fr.snoc X9 N8 gn_b1
  refine OGo.step st9 ?_
  show OGo _ _ _ _ _ _ _ (T9.setTop (mkF m 45 #[.val (.int p0), .val (.int p1), .val (.int p2), .unset, .unset, .unset] [(.ref b1)]))
  refine OGo.step (F' := T9.setTop (mkF m 50 #[.val (.int p0), .val (.int p1), .val (.int p2), .unset, .unset, .unset] [(.int (65533 : Int32)), (.int (8 : Int32)), (.ref b1), (.ref b1)])) (fun t kt => ?_) ?_
  · show Steps p.tables e below (T9.setTop (mkF m 45 #[.val (.int p0), .val (.int p1), .val (.int p2), .unset, .unset, .unset] [(.ref b1)])) t
    refine XS.dup X9.here hx rfl (hb hby at_45) rfl rfl ?_
    show Steps p.tables e below (T9.setTop (mkF m 46 #[.val (.int p0), .val (.int p1), .val (.int p2), .unset, .unset, .unset] [(.ref b1), (.ref b1)])) t
    refine XS.bipush X9.here hx rfl (hb hby at_46) ?_
    show Steps p.tables e below (T9.setTop (mkF m 48 #[.val (.int p0), .val (.int p1), .val (.int p2), .unset, .unset, .unset] [(.int (8 : Int32)), (.ref b1), (.ref b1)])) t
    refine X9.ldcInt hx hown (mvT hZ (own_wd hw 5 rfl)) (g := (mkF m 48 #[.val (.int p0), .val (.int p1), .val (.int p2), .unset, .unset, .unset] [(.int (8 : Int32)), (.ref b1), (.ref b1)])) rfl (hb hby at_48) _ ?_
    exact kt
  obtain ⟨cl10, Ar10, q10, S10, N10a, H10, G10⟩ := id (V9)
  have hin10 : ¬ ((8 : Int32) < 0 ∨ cl10.slots.size ≤ ((8 : Int32)).toNatClampNeg) := inb_of S10 ⟨by decide, by decide⟩
  obtain ⟨T10, h10, X10, e10, W10, st10⟩ := stI X9 hx hZ e9 Ar10 (j := (8 : Int32)) hin10 (g := (mkF m 50 #[.val (.int p0), .val (.int p1), .val (.int p2), .unset, .unset, .unset] [(.int (65533 : Int32)), (.int (8 : Int32)), (.ref b1), (.ref b1)])) rfl rfl (hb hby at_50)
  have V10 : Arv Z h10 b1 k1 .int (14 : Int32) [(.int (0 : Int32)), (.int (9 : Int32)), (.int (13 : Int32)), (.int (32 : Int32)), (.int (55295 : Int32)), (.int (55296 : Int32)), (.int (57343 : Int32)), (.int (57344 : Int32)), (.int (65533 : Int32)), (.int (0 : Int32)), (.int (0 : Int32)), (.int (0 : Int32)), (.int (0 : Int32)), (.int (0 : Int32))] (.int (0 : Int32)) := Arv.set Ar10 q10 S10 N10a H10 G10 rfl W10 8 rfl (Nat.le_of_ble_eq_true rfl)
  have KC10 : Keep h0 h10 [] := KC9.wr W10 (Or.inr sz_b1)
  have N10 := Fr.snoc X10 N9 gn_b1
  refine OGo.step st10 ?_
  show OGo _ _ _ _ _ _ _ (T10.setTop (mkF m 51 #[.val (.int p0), .val (.int p1), .val (.int p2), .unset, .unset, .unset] [(.ref b1)]))
  refine OGo.step (F' := T10.setTop (mkF m 56 #[.val (.int p0), .val (.int p1), .val (.int p2), .unset, .unset, .unset] [(.int (65535 : Int32)), (.int (9 : Int32)), (.ref b1), (.ref b1)])) (fun t kt => ?_) ?_
  · show Steps p.tables e below (T10.setTop (mkF m 51 #[.val (.int p0), .val (.int p1), .val (.int p2), .unset, .unset, .unset] [(.ref b1)])) t
    refine XS.dup X10.here hx rfl (hb hby at_51) rfl rfl ?_
    show Steps p.tables e below (T10.setTop (mkF m 52 #[.val (.int p0), .val (.int p1), .val (.int p2), .unset, .unset, .unset] [(.ref b1), (.ref b1)])) t
    refine XS.bipush X10.here hx rfl (hb hby at_52) ?_
    show Steps p.tables e below (T10.setTop (mkF m 54 #[.val (.int p0), .val (.int p1), .val (.int p2), .unset, .unset, .unset] [(.int (9 : Int32)), (.ref b1), (.ref b1)])) t
    refine X10.ldcInt hx hown (mvT hZ (own_wd hw 6 rfl)) (g := (mkF m 54 #[.val (.int p0), .val (.int p1), .val (.int p2), .unset, .unset, .unset] [(.int (9 : Int32)), (.ref b1), (.ref b1)])) rfl (hb hby at_54) _ ?_
    exact kt
  obtain ⟨cl11, Ar11, q11, S11, N11a, H11, G11⟩ := id (V10)
  have hin11 : ¬ ((9 : Int32) < 0 ∨ cl11.slots.size ≤ ((9 : Int32)).toNatClampNeg) := inb_of S11 ⟨by decide, by decide⟩
  obtain ⟨T11, h11, X11, e11, W11, st11⟩ := stI X10 hx hZ e10 Ar11 (j := (9 : Int32)) hin11 (g := (mkF m 56 #[.val (.int p0), .val (.int p1), .val (.int p2), .unset, .unset, .unset] [(.int (65535 : Int32)), (.int (9 : Int32)), (.ref b1), (.ref b1)])) rfl rfl (hb hby at_56)
  have V11 : Arv Z h11 b1 k1 .int (14 : Int32) [(.int (0 : Int32)), (.int (9 : Int32)), (.int (13 : Int32)), (.int (32 : Int32)), (.int (55295 : Int32)), (.int (55296 : Int32)), (.int (57343 : Int32)), (.int (57344 : Int32)), (.int (65533 : Int32)), (.int (65535 : Int32)), (.int (0 : Int32)), (.int (0 : Int32)), (.int (0 : Int32)), (.int (0 : Int32))] (.int (0 : Int32)) := Arv.set Ar11 q11 S11 N11a H11 G11 rfl W11 9 rfl (Nat.le_of_ble_eq_true rfl)
  have KC11 : Keep h0 h11 [] := KC10.wr W11 (Or.inr sz_b1)
  have N11 := Fr.snoc X11 N10 gn_b1
  refine OGo.step st11 ?_
  show OGo _ _ _ _ _ _ _ (T11.setTop (mkF m 57 #[.val (.int p0), .val (.int p1), .val (.int p2), .unset, .unset, .unset] [(.ref b1)]))
  refine OGo.step (F' := T11.setTop (mkF m 62 #[.val (.int p0), .val (.int p1), .val (.int p2), .unset, .unset, .unset] [(.int (65536 : Int32)), (.int (10 : Int32)), (.ref b1), (.ref b1)])) (fun t kt => ?_) ?_
  · show Steps p.tables e below (T11.setTop (mkF m 57 #[.val (.int p0), .val (.int p1), .val (.int p2), .unset, .unset, .unset] [(.ref b1)])) t
    refine XS.dup X11.here hx rfl (hb hby at_57) rfl rfl ?_
    show Steps p.tables e below (T11.setTop (mkF m 58 #[.val (.int p0), .val (.int p1), .val (.int p2), .unset, .unset, .unset] [(.ref b1), (.ref b1)])) t
    refine XS.bipush X11.here hx rfl (hb hby at_58) ?_
    show Steps p.tables e below (T11.setTop (mkF m 60 #[.val (.int p0), .val (.int p1), .val (.int p2), .unset, .unset, .unset] [(.int (10 : Int32)), (.ref b1), (.ref b1)])) t
    refine X11.ldcInt hx hown (mvT hZ (own_wd hw 7 rfl)) (g := (mkF m 60 #[.val (.int p0), .val (.int p1), .val (.int p2), .unset, .unset, .unset] [(.int (10 : Int32)), (.ref b1), (.ref b1)])) rfl (hb hby at_60) _ ?_
    exact kt
  obtain ⟨cl12, Ar12, q12, S12, N12a, H12, G12⟩ := id (V11)
  have hin12 : ¬ ((10 : Int32) < 0 ∨ cl12.slots.size ≤ ((10 : Int32)).toNatClampNeg) := inb_of S12 ⟨by decide, by decide⟩
  obtain ⟨T12, h12, X12, e12, W12, st12⟩ := stI X11 hx hZ e11 Ar12 (j := (10 : Int32)) hin12 (g := (mkF m 62 #[.val (.int p0), .val (.int p1), .val (.int p2), .unset, .unset, .unset] [(.int (65536 : Int32)), (.int (10 : Int32)), (.ref b1), (.ref b1)])) rfl rfl (hb hby at_62)
  have V12 : Arv Z h12 b1 k1 .int (14 : Int32) [(.int (0 : Int32)), (.int (9 : Int32)), (.int (13 : Int32)), (.int (32 : Int32)), (.int (55295 : Int32)), (.int (55296 : Int32)), (.int (57343 : Int32)), (.int (57344 : Int32)), (.int (65533 : Int32)), (.int (65535 : Int32)), (.int (65536 : Int32)), (.int (0 : Int32)), (.int (0 : Int32)), (.int (0 : Int32))] (.int (0 : Int32)) := Arv.set Ar12 q12 S12 N12a H12 G12 rfl W12 10 rfl (Nat.le_of_ble_eq_true rfl)
  have KC12 : Keep h0 h12 [] := KC11.wr W12 (Or.inr sz_b1)
  have N12 := Fr.snoc X12 N11 gn_b1
  refine OGo.step st12 ?_
  show OGo _ _ _ _ _ _ _ (T12.setTop (mkF m 63 #[.val (.int p0), .val (.int p1), .val (.int p2), .unset, .unset, .unset] [(.ref b1)]))
  refine OGo.step (F' := T12.setTop (mkF m 68 #[.val (.int p0), .val (.int p1), .val (.int p2), .unset, .unset, .unset] [(.int (1114111 : Int32)), (.int (11 : Int32)), (.ref b1), (.ref b1)])) (fun t kt => ?_) ?_
  · show Steps p.tables e below (T12.setTop (mkF m 63 #[.val (.int p0), .val (.int p1), .val (.int p2), .unset, .unset, .unset] [(.ref b1)])) t
    refine XS.dup X12.here hx rfl (hb hby at_63) rfl rfl ?_
    show Steps p.tables e below (T12.setTop (mkF m 64 #[.val (.int p0), .val (.int p1), .val (.int p2), .unset, .unset, .unset] [(.ref b1), (.ref b1)])) t
    refine XS.bipush X12.here hx rfl (hb hby at_64) ?_
    show Steps p.tables e below (T12.setTop (mkF m 66 #[.val (.int p0), .val (.int p1), .val (.int p2), .unset, .unset, .unset] [(.int (11 : Int32)), (.ref b1), (.ref b1)])) t
    refine X12.ldcInt hx hown (mvT hZ (own_wd hw 8 rfl)) (g := (mkF m 66 #[.val (.int p0), .val (.int p1), .val (.int p2), .unset, .unset, .unset] [(.int (11 : Int32)), (.ref b1), (.ref b1)])) rfl (hb hby at_66) _ ?_
    exact kt
  obtain ⟨cl13, Ar13, q13, S13, N13a, H13, G13⟩ := id (V12)
  have hin13 : ¬ ((11 : Int32) < 0 ∨ cl13.slots.size ≤ ((11 : Int32)).toNatClampNeg) := inb_of S13 ⟨by decide, by decide⟩
  obtain ⟨T13, h13, X13, e13, W13, st13⟩ := stI X12 hx hZ e12 Ar13 (j := (11 : Int32)) hin13 (g := (mkF m 68 #[.val (.int p0), .val (.int p1), .val (.int p2), .unset, .unset, .unset] [(.int (1114111 : Int32)), (.int (11 : Int32)), (.ref b1), (.ref b1)])) rfl rfl (hb hby at_68)
  have V13 : Arv Z h13 b1 k1 .int (14 : Int32) [(.int (0 : Int32)), (.int (9 : Int32)), (.int (13 : Int32)), (.int (32 : Int32)), (.int (55295 : Int32)), (.int (55296 : Int32)), (.int (57343 : Int32)), (.int (57344 : Int32)), (.int (65533 : Int32)), (.int (65535 : Int32)), (.int (65536 : Int32)), (.int (1114111 : Int32)), (.int (0 : Int32)), (.int (0 : Int32))] (.int (0 : Int32)) := Arv.set Ar13 q13 S13 N13a H13 G13 rfl W13 11 rfl (Nat.le_of_ble_eq_true rfl)
  have KC13 : Keep h0 h13 [] := KC12.wr W13 (Or.inr sz_b1)
  have N13 := Fr.snoc X13 N12 gn_b1
  refine OGo.step st13 ?_
  show OGo _ _ _ _ _ _ _ (T13.setTop (mkF m 69 #[.val (.int p0), .val (.int p1), .val (.int p2), .unset, .unset, .unset] [(.ref b1)]))
  refine OGo.step (F' := T13.setTop (mkF m 74 #[.val (.int p0), .val (.int p1), .val (.int p2), .unset, .unset, .unset] [(.int (-2147483648 : Int32)), (.int (12 : Int32)), (.ref b1), (.ref b1)])) (fun t kt => ?_) ?_
  · show Steps p.tables e below (T13.setTop (mkF m 69 #[.val (.int p0), .val (.int p1), .val (.int p2), .unset, .unset, .unset] [(.ref b1)])) t
    refine XS.dup X13.here hx rfl (hb hby at_69) rfl rfl ?_
    show Steps p.tables e below (T13.setTop (mkF m 70 #[.val (.int p0), .val (.int p1), .val (.int p2), .unset, .unset, .unset] [(.ref b1), (.ref b1)])) t
    refine XS.bipush X13.here hx rfl (hb hby at_70) ?_
    show Steps p.tables e below (T13.setTop (mkF m 72 #[.val (.int p0), .val (.int p1), .val (.int p2), .unset, .unset, .unset] [(.int (12 : Int32)), (.ref b1), (.ref b1)])) t
    refine X13.ldcInt hx hown (mvT hZ (own_wd hw 9 rfl)) (g := (mkF m 72 #[.val (.int p0), .val (.int p1), .val (.int p2), .unset, .unset, .unset] [(.int (12 : Int32)), (.ref b1), (.ref b1)])) rfl (hb hby at_72) _ ?_
    exact kt
  obtain ⟨cl14, Ar14, q14, S14, N14a, H14, G14⟩ := id (V13)
  have hin14 : ¬ ((12 : Int32) < 0 ∨ cl14.slots.size ≤ ((12 : Int32)).toNatClampNeg) := inb_of S14 ⟨by decide, by decide⟩
  obtain ⟨T14, h14, X14, e14, W14, st14⟩ := stI X13 hx hZ e13 Ar14 (j := (12 : Int32)) hin14 (g := (mkF m 74 #[.val (.int p0), .val (.int p1), .val (.int p2), .unset, .unset, .unset] [(.int (-2147483648 : Int32)), (.int (12 : Int32)), (.ref b1), (.ref b1)])) rfl rfl (hb hby at_74)
  have V14 : Arv Z h14 b1 k1 .int (14 : Int32) [(.int (0 : Int32)), (.int (9 : Int32)), (.int (13 : Int32)), (.int (32 : Int32)), (.int (55295 : Int32)), (.int (55296 : Int32)), (.int (57343 : Int32)), (.int (57344 : Int32)), (.int (65533 : Int32)), (.int (65535 : Int32)), (.int (65536 : Int32)), (.int (1114111 : Int32)), (.int (-2147483648 : Int32)), (.int (0 : Int32))] (.int (0 : Int32)) := Arv.set Ar14 q14 S14 N14a H14 G14 rfl W14 12 rfl (Nat.le_of_ble_eq_true rfl)
  have KC14 : Keep h0 h14 [] := KC13.wr W14 (Or.inr sz_b1)
  have N14 := Fr.snoc X14 N13 gn_b1
  refine OGo.step st14 ?_
  show OGo _ _ _ _ _ _ _ (T14.setTop (mkF m 75 #[.val (.int p0), .val (.int p1), .val (.int p2), .unset, .unset, .unset] [(.ref b1)]))
  refine OGo.step (F' := T14.setTop (mkF m 80 #[.val (.int p0), .val (.int p1), .val (.int p2), .unset, .unset, .unset] [(.int (2147483647 : Int32)), (.int (13 : Int32)), (.ref b1), (.ref b1)])) (fun t kt => ?_) ?_
  · show Steps p.tables e below (T14.setTop (mkF m 75 #[.val (.int p0), .val (.int p1), .val (.int p2), .unset, .unset, .unset] [(.ref b1)])) t
    refine XS.dup X14.here hx rfl (hb hby at_75) rfl rfl ?_
    show Steps p.tables e below (T14.setTop (mkF m 76 #[.val (.int p0), .val (.int p1), .val (.int p2), .unset, .unset, .unset] [(.ref b1), (.ref b1)])) t
    refine XS.bipush X14.here hx rfl (hb hby at_76) ?_
    show Steps p.tables e below (T14.setTop (mkF m 78 #[.val (.int p0), .val (.int p1), .val (.int p2), .unset, .unset, .unset] [(.int (13 : Int32)), (.ref b1), (.ref b1)])) t
    refine X14.ldcInt hx hown (mvT hZ (own_wd hw 10 rfl)) (g := (mkF m 78 #[.val (.int p0), .val (.int p1), .val (.int p2), .unset, .unset, .unset] [(.int (13 : Int32)), (.ref b1), (.ref b1)])) rfl (hb hby at_78) _ ?_
    exact kt
  obtain ⟨cl15, Ar15, q15, S15, N15a, H15, G15⟩ := id (V14)
  have hin15 : ¬ ((13 : Int32) < 0 ∨ cl15.slots.size ≤ ((13 : Int32)).toNatClampNeg) := inb_of S15 ⟨by decide, by decide⟩
  obtain ⟨T15, h15, X15, e15, W15, st15⟩ := stI X14 hx hZ e14 Ar15 (j := (13 : Int32)) hin15 (g := (mkF m 80 #[.val (.int p0), .val (.int p1), .val (.int p2), .unset, .unset, .unset] [(.int (2147483647 : Int32)), (.int (13 : Int32)), (.ref b1), (.ref b1)])) rfl rfl (hb hby at_80)
  have V15 : Arv Z h15 b1 k1 .int (14 : Int32) [(.int (0 : Int32)), (.int (9 : Int32)), (.int (13 : Int32)), (.int (32 : Int32)), (.int (55295 : Int32)), (.int (55296 : Int32)), (.int (57343 : Int32)), (.int (57344 : Int32)), (.int (65533 : Int32)), (.int (65535 : Int32)), (.int (65536 : Int32)), (.int (1114111 : Int32)), (.int (-2147483648 : Int32)), (.int (2147483647 : Int32))] (.int (0 : Int32)) := Arv.set Ar15 q15 S15 N15a H15 G15 rfl W15 13 rfl (Nat.le_of_ble_eq_true rfl)
  have KC15 : Keep h0 h15 [] := KC14.wr W15 (Or.inr sz_b1)
  have N15 := Fr.snoc X15 N14 gn_b1
  refine OGo.step st15 ?_
  show OGo _ _ _ _ _ _ _ (T15.setTop (mkF m 81 #[.val (.int p0), .val (.int p1), .val (.int p2), .unset, .unset, .unset] [(.ref b1)]))
  refine OGo.step (F' := T15.setTop (mkF m 85 #[.val (.int p0), .val (.int p1), .val (.int p2), .val (.ref b1), .unset, .unset] [(.int (p1 &&& (1 : Int32)))])) (fun t kt => ?_) ?_
  · show Steps p.tables e below (T15.setTop (mkF m 81 #[.val (.int p0), .val (.int p1), .val (.int p2), .unset, .unset, .unset] [(.ref b1)])) t
    refine XS.astoreN X15.here hx rfl (hb hby at_81) rfl rfl (l' := #[.val (.int p0), .val (.int p1), .val (.int p2), .val (.ref b1), .unset, .unset]) rfl ?_
    show Steps p.tables e below (T15.setTop (mkF m 82 #[.val (.int p0), .val (.int p1), .val (.int p2), .val (.ref b1), .unset, .unset] [])) t
    refine XS.iloadN X15.here hx rfl (hb hby at_82) rfl ?_
    show Steps p.tables e below (T15.setTop (mkF m 83 #[.val (.int p0), .val (.int p1), .val (.int p2), .val (.ref b1), .unset, .unset] [(.int p1)])) t
    refine XS.iconst X15.here hx rfl (hb hby at_83) ?_
    show Steps p.tables e below (T15.setTop (mkF m 84 #[.val (.int p0), .val (.int p1), .val (.int p2), .val (.ref b1), .unset, .unset] [(.int (1 : Int32)), (.int p1)])) t
    refine XS.iand X15.here hx rfl (hb hby at_84) rfl ?_
    exact kt
  by_cases hc85 : (p1 &&& (1 : Int32)) = (0 : Int32)
  · refine OGo.step (F' := T15.setTop (mkF m 88 #[.val (.int p0), .val (.int p1), .val (.int p2), .val (.ref b1), .unset, .unset] [])) (fun t kt => ?_) ?_
    · show Steps p.tables e below (T15.setTop (mkF m 85 #[.val (.int p0), .val (.int p1), .val (.int p2), .val (.ref b1), .unset, .unset] [(.int (p1 &&& (1 : Int32)))])) t
      refine XS.ifNo X15.here hx rfl (hb hby at_85) rfl ((if0 _ _).trans (teq hc85).2) ?_
      exact kt
    refine OGo.step (F' := T15.setTop (mkF m 120 #[.val (.int p0), .val (.int p1), .val (.int p2), .val (.ref b1), .val (.int p0), .unset] [(.int p0)])) (fun t kt => ?_) ?_
    · show Steps p.tables e below (T15.setTop (mkF m 88 #[.val (.int p0), .val (.int p1), .val (.int p2), .val (.ref b1), .unset, .unset] [])) t
      refine XS.iloadN X15.here hx rfl (hb hby at_88) rfl ?_
      show Steps p.tables e below (T15.setTop (mkF m 89 #[.val (.int p0), .val (.int p1), .val (.int p2), .val (.ref b1), .unset, .unset] [(.int p0)])) t
      refine XS.istore X15.here hx rfl (hb hby at_89) rfl (l' := #[.val (.int p0), .val (.int p1), .val (.int p2), .val (.ref b1), .val (.int p0), .unset]) rfl ?_
      show Steps p.tables e below (T15.setTop (mkF m 91 #[.val (.int p0), .val (.int p1), .val (.int p2), .val (.ref b1), .val (.int p0), .unset] [])) t
      refine XS.goto X15.here hx rfl (pc0 := 91) (pc' := 118) rfl (hb hby at_91) (by decide) (by decide) ?_
      show Steps p.tables e below (T15.setTop (mkF m 118 #[.val (.int p0), .val (.int p1), .val (.int p2), .val (.ref b1), .val (.int p0), .unset] [])) t
      refine XS.iload X15.here hx rfl (hb hby at_118) rfl ?_
      exact kt
    refine OGo.callS X15 hx hZ (y := (⟨"com/example/cadmus/cadmus/xdm/XmlChars", "isChar", "(I)Z"⟩ : MethodName)) hown (own_wd hw 11 rfl) (own_wd hw 12 rfl) (own_wd hw 13 rfl) (own_wd hw 14 rfl) (by decide) (rm1 l Z az hw [] p0 h15 n0 (Nat.le_trans Z0 KC15.1)) (W := 0) (by decide) (by decide) (g := (mkF m 120 #[.val (.int p0), .val (.int p1), .val (.int p2), .val (.ref b1), .val (.int p0), .unset] [(.int p0)])) rfl (by rw [hml]; rfl) (argsL := [(.int p0)]) (rest := []) (lenOf pd_0_0 rfl) rfl (by show 2 * 0 + _ ≤ _; exact Nat.le_of_eq rfl) (hb hby at_120) rfl e15 (by decide) (by decide) ?_
    rintro _ T16 L16 X16 ⟨rfl, Nq16, e16⟩
    have N16 := Fr.app N15 Nq16
    show OGo _ _ _ _ _ _ _ (T16.setTop (mkF m 123 #[.val (.int p0), .val (.int p1), .val (.int p2), .val (.ref b1), .val (.int p0), .unset] [(.int (f1 p0))]))
    refine OGo.step (F' := T16.setTop (mkF m 125 #[.val (.int p0), .val (.int p1), .val (.int p2), .val (.ref b1), .val (.int p0), .unset] [(.int p0), (.int (f1 p0))])) (fun t kt => ?_) ?_
    · show Steps p.tables e below (T16.setTop (mkF m 123 #[.val (.int p0), .val (.int p1), .val (.int p2), .val (.ref b1), .val (.int p0), .unset] [(.int (f1 p0))])) t
      refine XS.iload X16.here hx rfl (hb hby at_123) rfl ?_
      exact kt
    refine OGo.callS X16 hx hZ (y := (⟨"com/example/cadmus/cadmus/xdm/XmlCharsIsCharPinLaw", "reference", "(I)Z"⟩ : MethodName)) hown (own_wd hw 17 rfl) (own_wd hw 18 rfl) (own_wd hw 19 rfl) (own_wd hw 20 rfl) (by decide) (rm2 l Z az hw [] p0 h15 n0 (Nat.le_trans Z0 KC15.1)) (W := 1) (by decide) (by decide) (g := (mkF m 125 #[.val (.int p0), .val (.int p1), .val (.int p2), .val (.ref b1), .val (.int p0), .unset] [(.int p0), (.int (f1 p0))])) rfl (by rw [hml]; rfl) (argsL := [(.int p0)]) (rest := [(.int (f1 p0))]) (lenOf pd_0_0 rfl) rfl (by show 2 * 0 + _ ≤ _; exact Nat.le_of_eq rfl) (hb hby at_125) rfl e16 (by decide) (by decide) ?_
    rintro _ T17 L17 X17 ⟨rfl, Nq17, e17⟩
    have N17 := Fr.app N16 Nq17
    show OGo _ _ _ _ _ _ _ (T17.setTop (mkF m 128 #[.val (.int p0), .val (.int p1), .val (.int p2), .val (.ref b1), .val (.int p0), .unset] [(.int (f2 p0)), (.int (f1 p0))]))
    by_cases hc128 : (f1 p0) = (f2 p0)
    · refine OGo.step (F' := T17.setTop (mkF m 131 #[.val (.int p0), .val (.int p1), .val (.int p2), .val (.ref b1), .val (.int p0), .unset] [])) (fun t kt => ?_) ?_
      · show Steps p.tables e below (T17.setTop (mkF m 128 #[.val (.int p0), .val (.int p1), .val (.int p2), .val (.ref b1), .val (.int p0), .unset] [(.int (f2 p0)), (.int (f1 p0))])) t
        refine XS.icmpNo X17.here hx rfl (hb hby at_128) rfl (teq hc128).2 ?_
        exact kt
      refine OGo.step (F' := T17.setTop (mkF m 136 #[.val (.int p0), .val (.int p1), .val (.int p2), .val (.ref b1), .val (.int p0), .unset] [(.int (1 : Int32))])) (fun t kt => ?_) ?_
      · show Steps p.tables e below (T17.setTop (mkF m 131 #[.val (.int p0), .val (.int p1), .val (.int p2), .val (.ref b1), .val (.int p0), .unset] [])) t
        refine XS.iconst X17.here hx rfl (hb hby at_131) ?_
        show Steps p.tables e below (T17.setTop (mkF m 132 #[.val (.int p0), .val (.int p1), .val (.int p2), .val (.ref b1), .val (.int p0), .unset] [(.int (1 : Int32))])) t
        refine XS.goto X17.here hx rfl (pc0 := 132) (pc' := 136) rfl (hb hby at_132) (by decide) (by decide) ?_
        exact kt
      refine OGo.retZ X17 hx hlk (t := .boolean) (z' := (1 : Int32)) hret (by simp) (hb hby at_136) rfl ?_ (by decide) (by decide)
      show Q0 Z p0 p1 p2 h0 n0 _ T17.heap _
      rw [e17]
      exact ⟨(by rw [f0, if_pos hc85, if_pos hc128]), N17, KC15⟩
    · refine OGo.step (F' := T17.setTop (mkF m 135 #[.val (.int p0), .val (.int p1), .val (.int p2), .val (.ref b1), .val (.int p0), .unset] [])) (fun t kt => ?_) ?_
      · show Steps p.tables e below (T17.setTop (mkF m 128 #[.val (.int p0), .val (.int p1), .val (.int p2), .val (.ref b1), .val (.int p0), .unset] [(.int (f2 p0)), (.int (f1 p0))])) t
        refine XS.icmpYes X17.here hx rfl (pc0 := 128) (pc' := 135) rfl (hb hby at_128) rfl (feq hc128).2 (by decide) (by decide) ?_
        exact kt
      refine OGo.step (F' := T17.setTop (mkF m 136 #[.val (.int p0), .val (.int p1), .val (.int p2), .val (.ref b1), .val (.int p0), .unset] [(.int (0 : Int32))])) (fun t kt => ?_) ?_
      · show Steps p.tables e below (T17.setTop (mkF m 135 #[.val (.int p0), .val (.int p1), .val (.int p2), .val (.ref b1), .val (.int p0), .unset] [])) t
        refine XS.iconst X17.here hx rfl (hb hby at_135) ?_
        exact kt
      refine OGo.retZ X17 hx hlk (t := .boolean) (z' := (0 : Int32)) hret (by simp) (hb hby at_136) rfl ?_ (by decide) (by decide)
      show Q0 Z p0 p1 p2 h0 n0 _ T17.heap _
      rw [e17]
      exact ⟨(by rw [f0, if_pos hc85, if_neg hc128]), N17, KC15⟩
  · refine OGo.step (F' := T15.setTop (mkF m 94 #[.val (.int p0), .val (.int p1), .val (.int p2), .val (.ref b1), .unset, .unset] [])) (fun t kt => ?_) ?_
    · show Steps p.tables e below (T15.setTop (mkF m 85 #[.val (.int p0), .val (.int p1), .val (.int p2), .val (.ref b1), .unset, .unset] [(.int (p1 &&& (1 : Int32)))])) t
      refine XS.ifYes X15.here hx rfl (pc0 := 85) (pc' := 94) rfl (hb hby at_85) rfl ((if0 _ _).trans (feq hc85).2) (by decide) (by decide) ?_
      exact kt
    refine OGo.step (F' := T15.setTop (mkF m 102 #[.val (.int p0), .val (.int p1), .val (.int p2), .val (.ref b1), .unset, .unset] [(.ref b1), (.int (((p1.toUInt32 >>> ((1 : Int32) &&& 31).toUInt32).toInt32) &&& (2147483647 : Int32))), (.ref b1)])) (fun t kt => ?_) ?_
    · show Steps p.tables e below (T15.setTop (mkF m 94 #[.val (.int p0), .val (.int p1), .val (.int p2), .val (.ref b1), .unset, .unset] [])) t
      refine XS.aloadN X15.here hx rfl (hb hby at_94) rfl rfl ?_
      show Steps p.tables e below (T15.setTop (mkF m 95 #[.val (.int p0), .val (.int p1), .val (.int p2), .val (.ref b1), .unset, .unset] [(.ref b1)])) t
      refine XS.iloadN X15.here hx rfl (hb hby at_95) rfl ?_
      show Steps p.tables e below (T15.setTop (mkF m 96 #[.val (.int p0), .val (.int p1), .val (.int p2), .val (.ref b1), .unset, .unset] [(.int p1), (.ref b1)])) t
      refine XS.iconst X15.here hx rfl (hb hby at_96) ?_
      show Steps p.tables e below (T15.setTop (mkF m 97 #[.val (.int p0), .val (.int p1), .val (.int p2), .val (.ref b1), .unset, .unset] [(.int (1 : Int32)), (.int p1), (.ref b1)])) t
      refine XS.iushr X15.here hx rfl (hb hby at_97) rfl ?_
      show Steps p.tables e below (T15.setTop (mkF m 98 #[.val (.int p0), .val (.int p1), .val (.int p2), .val (.ref b1), .unset, .unset] [(.int ((p1.toUInt32 >>> ((1 : Int32) &&& 31).toUInt32).toInt32)), (.ref b1)])) t
      refine X15.ldcInt hx hown (mvT hZ (own_wd hw 10 rfl)) (g := (mkF m 98 #[.val (.int p0), .val (.int p1), .val (.int p2), .val (.ref b1), .unset, .unset] [(.int ((p1.toUInt32 >>> ((1 : Int32) &&& 31).toUInt32).toInt32)), (.ref b1)])) rfl (hb hby at_98) _ ?_
      show Steps p.tables e below (T15.setTop (mkF m 100 #[.val (.int p0), .val (.int p1), .val (.int p2), .val (.ref b1), .unset, .unset] [(.int (2147483647 : Int32)), (.int ((p1.toUInt32 >>> ((1 : Int32) &&& 31).toUInt32).toInt32)), (.ref b1)])) t
      refine XS.iand X15.here hx rfl (hb hby at_100) rfl ?_
      show Steps p.tables e below (T15.setTop (mkF m 101 #[.val (.int p0), .val (.int p1), .val (.int p2), .val (.ref b1), .unset, .unset] [(.int (((p1.toUInt32 >>> ((1 : Int32) &&& 31).toUInt32).toInt32) &&& (2147483647 : Int32))), (.ref b1)])) t
      refine XS.aloadN X15.here hx rfl (hb hby at_101) rfl rfl ?_
      exact kt
    obtain ⟨cl18, Ar18, q18, S18, N18a, H18, G18⟩ := id (V15)
    refine OGo.step (F' := T15.setTop (mkF m 103 #[.val (.int p0), .val (.int p1), .val (.int p2), .val (.ref b1), .unset, .unset] [(.int (14 : Int32)), (.int (((p1.toUInt32 >>> ((1 : Int32) &&& 31).toUInt32).toInt32) &&& (2147483647 : Int32))), (.ref b1)])) (fun t kt => ?_) ?_
    · show Steps p.tables e below (T15.setTop (mkF m 102 #[.val (.int p0), .val (.int p1), .val (.int p2), .val (.ref b1), .unset, .unset] [(.ref b1), (.int (((p1.toUInt32 >>> ((1 : Int32) &&& 31).toUInt32).toInt32) &&& (2147483647 : Int32))), (.ref b1)])) t
      refine X15.arraylength hx (by rw [e15]; exact Ar18.1) (State.isArrayOf_alike hZ.alike Ar18.2.1) (g := (mkF m 102 #[.val (.int p0), .val (.int p1), .val (.int p2), .val (.ref b1), .unset, .unset] [(.ref b1), (.int (((p1.toUInt32 >>> ((1 : Int32) &&& 31).toUInt32).toInt32) &&& (2147483647 : Int32))), (.ref b1)])) rfl rfl (hb hby at_102) _ ?_
      rw [len_of S18 N18a]
      exact kt
    refine OGo.step (F' := T15.setTop (mkF m 104 #[.val (.int p0), .val (.int p1), .val (.int p2), .val (.ref b1), .unset, .unset] [(.int ((((p1.toUInt32 >>> ((1 : Int32) &&& 31).toUInt32).toInt32) &&& (2147483647 : Int32)) % (14 : Int32))), (.ref b1)])) (fun t kt => ?_) ?_
    · show Steps p.tables e below (T15.setTop (mkF m 103 #[.val (.int p0), .val (.int p1), .val (.int p2), .val (.ref b1), .unset, .unset] [(.int (14 : Int32)), (.int (((p1.toUInt32 >>> ((1 : Int32) &&& 31).toUInt32).toInt32) &&& (2147483647 : Int32))), (.ref b1)])) t
      refine Jvm.RoadKit.iremM (g := (mkF m 103 #[.val (.int p0), .val (.int p1), .val (.int p2), .val (.ref b1), .unset, .unset] [(.int (14 : Int32)), (.int (((p1.toUInt32 >>> ((1 : Int32) &&& 31).toUInt32).toInt32) &&& (2147483647 : Int32))), (.ref b1)])) X15 hx rfl (hb hby at_103) rfl (by decide) ?_
      exact kt
    obtain ⟨cl19, Ar19, q19, S19, N19a, H19, G19⟩ := id (V15)
    have hin19 : ¬ (((((p1.toUInt32 >>> ((1 : Int32) &&& 31).toUInt32).toInt32) &&& (2147483647 : Int32)) % (14 : Int32)) < 0 ∨ cl19.slots.size ≤ (((((p1.toUInt32 >>> ((1 : Int32) &&& 31).toUInt32).toInt32) &&& (2147483647 : Int32)) % (14 : Int32))).toNatClampNeg) := inb_of S19 (own_ix p1)
    have hat19 : cl19.slots[(((((p1.toUInt32 >>> ((1 : Int32) &&& 31).toUInt32).toInt32) &&& (2147483647 : Int32)) % (14 : Int32))).toNatClampNeg]? = some (.int (own_pick [(0 : Int32), (9 : Int32), (13 : Int32), (32 : Int32), (55295 : Int32), (55296 : Int32), (57343 : Int32), (57344 : Int32), (65533 : Int32), (65535 : Int32), (65536 : Int32), (1114111 : Int32), (-2147483648 : Int32), (2147483647 : Int32)] ((((p1.toUInt32 >>> ((1 : Int32) &&& 31).toUInt32).toInt32) &&& (2147483647 : Int32)) % (14 : Int32)))) := H19.at hin19 (own_pick_at [(0 : Int32), (9 : Int32), (13 : Int32), (32 : Int32), (55295 : Int32), (55296 : Int32), (57343 : Int32), (57344 : Int32), (65533 : Int32), (65535 : Int32), (65536 : Int32), (1114111 : Int32), (-2147483648 : Int32), (2147483647 : Int32)] _)
    refine OGo.step (F' := T15.setTop (mkF m 105 #[.val (.int p0), .val (.int p1), .val (.int p2), .val (.ref b1), .unset, .unset] [(.int (own_pick [(0 : Int32), (9 : Int32), (13 : Int32), (32 : Int32), (55295 : Int32), (55296 : Int32), (57343 : Int32), (57344 : Int32), (65533 : Int32), (65535 : Int32), (65536 : Int32), (1114111 : Int32), (-2147483648 : Int32), (2147483647 : Int32)] ((((p1.toUInt32 >>> ((1 : Int32) &&& 31).toUInt32).toInt32) &&& (2147483647 : Int32)) % (14 : Int32))))])) (fun t kt => ?_) ?_
    · show Steps p.tables e below (T15.setTop (mkF m 104 #[.val (.int p0), .val (.int p1), .val (.int p2), .val (.ref b1), .unset, .unset] [(.int ((((p1.toUInt32 >>> ((1 : Int32) &&& 31).toUInt32).toInt32) &&& (2147483647 : Int32)) % (14 : Int32))), (.ref b1)])) t
      refine X15.iaload hx (j := ((((p1.toUInt32 >>> ((1 : Int32) &&& 31).toUInt32).toInt32) &&& (2147483647 : Int32)) % (14 : Int32))) (v := (.int (own_pick [(0 : Int32), (9 : Int32), (13 : Int32), (32 : Int32), (55295 : Int32), (55296 : Int32), (57343 : Int32), (57344 : Int32), (65533 : Int32), (65535 : Int32), (65536 : Int32), (1114111 : Int32), (-2147483648 : Int32), (2147483647 : Int32)] ((((p1.toUInt32 >>> ((1 : Int32) &&& 31).toUInt32).toInt32) &&& (2147483647 : Int32)) % (14 : Int32))))) (by rw [e15]; exact Ar19.1) (State.isArrayOf_alike hZ.alike Ar19.2.1) Ar19.2.2 hin19 hat19 (g := (mkF m 104 #[.val (.int p0), .val (.int p1), .val (.int p2), .val (.ref b1), .unset, .unset] [(.int ((((p1.toUInt32 >>> ((1 : Int32) &&& 31).toUInt32).toInt32) &&& (2147483647 : Int32)) % (14 : Int32))), (.ref b1)])) rfl rfl (hb hby at_104) _ ?_
      exact kt
    refine OGo.step (F' := T15.setTop (mkF m 120 #[.val (.int p0), .val (.int p1), .val (.int p2), .val (.ref b1), .val (.int ((own_pick [(0 : Int32), (9 : Int32), (13 : Int32), (32 : Int32), (55295 : Int32), (55296 : Int32), (57343 : Int32), (57344 : Int32), (65533 : Int32), (65535 : Int32), (65536 : Int32), (1114111 : Int32), (-2147483648 : Int32), (2147483647 : Int32)] ((((p1.toUInt32 >>> ((1 : Int32) &&& 31).toUInt32).toInt32) &&& (2147483647 : Int32)) % (14 : Int32))) + ((p2 &&& (7 : Int32)) - (4 : Int32)))), .val (.int (own_pick [(0 : Int32), (9 : Int32), (13 : Int32), (32 : Int32), (55295 : Int32), (55296 : Int32), (57343 : Int32), (57344 : Int32), (65533 : Int32), (65535 : Int32), (65536 : Int32), (1114111 : Int32), (-2147483648 : Int32), (2147483647 : Int32)] ((((p1.toUInt32 >>> ((1 : Int32) &&& 31).toUInt32).toInt32) &&& (2147483647 : Int32)) % (14 : Int32))))] [(.int ((own_pick [(0 : Int32), (9 : Int32), (13 : Int32), (32 : Int32), (55295 : Int32), (55296 : Int32), (57343 : Int32), (57344 : Int32), (65533 : Int32), (65535 : Int32), (65536 : Int32), (1114111 : Int32), (-2147483648 : Int32), (2147483647 : Int32)] ((((p1.toUInt32 >>> ((1 : Int32) &&& 31).toUInt32).toInt32) &&& (2147483647 : Int32)) % (14 : Int32))) + ((p2 &&& (7 : Int32)) - (4 : Int32))))])) (fun t kt => ?_) ?_
    · show Steps p.tables e below (T15.setTop (mkF m 105 #[.val (.int p0), .val (.int p1), .val (.int p2), .val (.ref b1), .unset, .unset] [(.int (own_pick [(0 : Int32), (9 : Int32), (13 : Int32), (32 : Int32), (55295 : Int32), (55296 : Int32), (57343 : Int32), (57344 : Int32), (65533 : Int32), (65535 : Int32), (65536 : Int32), (1114111 : Int32), (-2147483648 : Int32), (2147483647 : Int32)] ((((p1.toUInt32 >>> ((1 : Int32) &&& 31).toUInt32).toInt32) &&& (2147483647 : Int32)) % (14 : Int32))))])) t
      refine XS.istore X15.here hx rfl (hb hby at_105) rfl (l' := #[.val (.int p0), .val (.int p1), .val (.int p2), .val (.ref b1), .unset, .val (.int (own_pick [(0 : Int32), (9 : Int32), (13 : Int32), (32 : Int32), (55295 : Int32), (55296 : Int32), (57343 : Int32), (57344 : Int32), (65533 : Int32), (65535 : Int32), (65536 : Int32), (1114111 : Int32), (-2147483648 : Int32), (2147483647 : Int32)] ((((p1.toUInt32 >>> ((1 : Int32) &&& 31).toUInt32).toInt32) &&& (2147483647 : Int32)) % (14 : Int32))))]) rfl ?_
      show Steps p.tables e below (T15.setTop (mkF m 107 #[.val (.int p0), .val (.int p1), .val (.int p2), .val (.ref b1), .unset, .val (.int (own_pick [(0 : Int32), (9 : Int32), (13 : Int32), (32 : Int32), (55295 : Int32), (55296 : Int32), (57343 : Int32), (57344 : Int32), (65533 : Int32), (65535 : Int32), (65536 : Int32), (1114111 : Int32), (-2147483648 : Int32), (2147483647 : Int32)] ((((p1.toUInt32 >>> ((1 : Int32) &&& 31).toUInt32).toInt32) &&& (2147483647 : Int32)) % (14 : Int32))))] [])) t
      refine XS.iload X15.here hx rfl (hb hby at_107) rfl ?_
      show Steps p.tables e below (T15.setTop (mkF m 109 #[.val (.int p0), .val (.int p1), .val (.int p2), .val (.ref b1), .unset, .val (.int (own_pick [(0 : Int32), (9 : Int32), (13 : Int32), (32 : Int32), (55295 : Int32), (55296 : Int32), (57343 : Int32), (57344 : Int32), (65533 : Int32), (65535 : Int32), (65536 : Int32), (1114111 : Int32), (-2147483648 : Int32), (2147483647 : Int32)] ((((p1.toUInt32 >>> ((1 : Int32) &&& 31).toUInt32).toInt32) &&& (2147483647 : Int32)) % (14 : Int32))))] [(.int (own_pick [(0 : Int32), (9 : Int32), (13 : Int32), (32 : Int32), (55295 : Int32), (55296 : Int32), (57343 : Int32), (57344 : Int32), (65533 : Int32), (65535 : Int32), (65536 : Int32), (1114111 : Int32), (-2147483648 : Int32), (2147483647 : Int32)] ((((p1.toUInt32 >>> ((1 : Int32) &&& 31).toUInt32).toInt32) &&& (2147483647 : Int32)) % (14 : Int32))))])) t
      refine XS.iloadN X15.here hx rfl (hb hby at_109) rfl ?_
      show Steps p.tables e below (T15.setTop (mkF m 110 #[.val (.int p0), .val (.int p1), .val (.int p2), .val (.ref b1), .unset, .val (.int (own_pick [(0 : Int32), (9 : Int32), (13 : Int32), (32 : Int32), (55295 : Int32), (55296 : Int32), (57343 : Int32), (57344 : Int32), (65533 : Int32), (65535 : Int32), (65536 : Int32), (1114111 : Int32), (-2147483648 : Int32), (2147483647 : Int32)] ((((p1.toUInt32 >>> ((1 : Int32) &&& 31).toUInt32).toInt32) &&& (2147483647 : Int32)) % (14 : Int32))))] [(.int p2), (.int (own_pick [(0 : Int32), (9 : Int32), (13 : Int32), (32 : Int32), (55295 : Int32), (55296 : Int32), (57343 : Int32), (57344 : Int32), (65533 : Int32), (65535 : Int32), (65536 : Int32), (1114111 : Int32), (-2147483648 : Int32), (2147483647 : Int32)] ((((p1.toUInt32 >>> ((1 : Int32) &&& 31).toUInt32).toInt32) &&& (2147483647 : Int32)) % (14 : Int32))))])) t
      refine XS.bipush X15.here hx rfl (hb hby at_110) ?_
      show Steps p.tables e below (T15.setTop (mkF m 112 #[.val (.int p0), .val (.int p1), .val (.int p2), .val (.ref b1), .unset, .val (.int (own_pick [(0 : Int32), (9 : Int32), (13 : Int32), (32 : Int32), (55295 : Int32), (55296 : Int32), (57343 : Int32), (57344 : Int32), (65533 : Int32), (65535 : Int32), (65536 : Int32), (1114111 : Int32), (-2147483648 : Int32), (2147483647 : Int32)] ((((p1.toUInt32 >>> ((1 : Int32) &&& 31).toUInt32).toInt32) &&& (2147483647 : Int32)) % (14 : Int32))))] [(.int (7 : Int32)), (.int p2), (.int (own_pick [(0 : Int32), (9 : Int32), (13 : Int32), (32 : Int32), (55295 : Int32), (55296 : Int32), (57343 : Int32), (57344 : Int32), (65533 : Int32), (65535 : Int32), (65536 : Int32), (1114111 : Int32), (-2147483648 : Int32), (2147483647 : Int32)] ((((p1.toUInt32 >>> ((1 : Int32) &&& 31).toUInt32).toInt32) &&& (2147483647 : Int32)) % (14 : Int32))))])) t
      refine XS.iand X15.here hx rfl (hb hby at_112) rfl ?_
      show Steps p.tables e below (T15.setTop (mkF m 113 #[.val (.int p0), .val (.int p1), .val (.int p2), .val (.ref b1), .unset, .val (.int (own_pick [(0 : Int32), (9 : Int32), (13 : Int32), (32 : Int32), (55295 : Int32), (55296 : Int32), (57343 : Int32), (57344 : Int32), (65533 : Int32), (65535 : Int32), (65536 : Int32), (1114111 : Int32), (-2147483648 : Int32), (2147483647 : Int32)] ((((p1.toUInt32 >>> ((1 : Int32) &&& 31).toUInt32).toInt32) &&& (2147483647 : Int32)) % (14 : Int32))))] [(.int (p2 &&& (7 : Int32))), (.int (own_pick [(0 : Int32), (9 : Int32), (13 : Int32), (32 : Int32), (55295 : Int32), (55296 : Int32), (57343 : Int32), (57344 : Int32), (65533 : Int32), (65535 : Int32), (65536 : Int32), (1114111 : Int32), (-2147483648 : Int32), (2147483647 : Int32)] ((((p1.toUInt32 >>> ((1 : Int32) &&& 31).toUInt32).toInt32) &&& (2147483647 : Int32)) % (14 : Int32))))])) t
      refine XS.iconst X15.here hx rfl (hb hby at_113) ?_
      show Steps p.tables e below (T15.setTop (mkF m 114 #[.val (.int p0), .val (.int p1), .val (.int p2), .val (.ref b1), .unset, .val (.int (own_pick [(0 : Int32), (9 : Int32), (13 : Int32), (32 : Int32), (55295 : Int32), (55296 : Int32), (57343 : Int32), (57344 : Int32), (65533 : Int32), (65535 : Int32), (65536 : Int32), (1114111 : Int32), (-2147483648 : Int32), (2147483647 : Int32)] ((((p1.toUInt32 >>> ((1 : Int32) &&& 31).toUInt32).toInt32) &&& (2147483647 : Int32)) % (14 : Int32))))] [(.int (4 : Int32)), (.int (p2 &&& (7 : Int32))), (.int (own_pick [(0 : Int32), (9 : Int32), (13 : Int32), (32 : Int32), (55295 : Int32), (55296 : Int32), (57343 : Int32), (57344 : Int32), (65533 : Int32), (65535 : Int32), (65536 : Int32), (1114111 : Int32), (-2147483648 : Int32), (2147483647 : Int32)] ((((p1.toUInt32 >>> ((1 : Int32) &&& 31).toUInt32).toInt32) &&& (2147483647 : Int32)) % (14 : Int32))))])) t
      refine XS.isub X15.here hx rfl (hb hby at_114) rfl ?_
      show Steps p.tables e below (T15.setTop (mkF m 115 #[.val (.int p0), .val (.int p1), .val (.int p2), .val (.ref b1), .unset, .val (.int (own_pick [(0 : Int32), (9 : Int32), (13 : Int32), (32 : Int32), (55295 : Int32), (55296 : Int32), (57343 : Int32), (57344 : Int32), (65533 : Int32), (65535 : Int32), (65536 : Int32), (1114111 : Int32), (-2147483648 : Int32), (2147483647 : Int32)] ((((p1.toUInt32 >>> ((1 : Int32) &&& 31).toUInt32).toInt32) &&& (2147483647 : Int32)) % (14 : Int32))))] [(.int ((p2 &&& (7 : Int32)) - (4 : Int32))), (.int (own_pick [(0 : Int32), (9 : Int32), (13 : Int32), (32 : Int32), (55295 : Int32), (55296 : Int32), (57343 : Int32), (57344 : Int32), (65533 : Int32), (65535 : Int32), (65536 : Int32), (1114111 : Int32), (-2147483648 : Int32), (2147483647 : Int32)] ((((p1.toUInt32 >>> ((1 : Int32) &&& 31).toUInt32).toInt32) &&& (2147483647 : Int32)) % (14 : Int32))))])) t
      refine XS.iadd X15.here hx rfl (hb hby at_115) rfl ?_
      show Steps p.tables e below (T15.setTop (mkF m 116 #[.val (.int p0), .val (.int p1), .val (.int p2), .val (.ref b1), .unset, .val (.int (own_pick [(0 : Int32), (9 : Int32), (13 : Int32), (32 : Int32), (55295 : Int32), (55296 : Int32), (57343 : Int32), (57344 : Int32), (65533 : Int32), (65535 : Int32), (65536 : Int32), (1114111 : Int32), (-2147483648 : Int32), (2147483647 : Int32)] ((((p1.toUInt32 >>> ((1 : Int32) &&& 31).toUInt32).toInt32) &&& (2147483647 : Int32)) % (14 : Int32))))] [(.int ((own_pick [(0 : Int32), (9 : Int32), (13 : Int32), (32 : Int32), (55295 : Int32), (55296 : Int32), (57343 : Int32), (57344 : Int32), (65533 : Int32), (65535 : Int32), (65536 : Int32), (1114111 : Int32), (-2147483648 : Int32), (2147483647 : Int32)] ((((p1.toUInt32 >>> ((1 : Int32) &&& 31).toUInt32).toInt32) &&& (2147483647 : Int32)) % (14 : Int32))) + ((p2 &&& (7 : Int32)) - (4 : Int32))))])) t
      refine XS.istore X15.here hx rfl (hb hby at_116) rfl (l' := #[.val (.int p0), .val (.int p1), .val (.int p2), .val (.ref b1), .val (.int ((own_pick [(0 : Int32), (9 : Int32), (13 : Int32), (32 : Int32), (55295 : Int32), (55296 : Int32), (57343 : Int32), (57344 : Int32), (65533 : Int32), (65535 : Int32), (65536 : Int32), (1114111 : Int32), (-2147483648 : Int32), (2147483647 : Int32)] ((((p1.toUInt32 >>> ((1 : Int32) &&& 31).toUInt32).toInt32) &&& (2147483647 : Int32)) % (14 : Int32))) + ((p2 &&& (7 : Int32)) - (4 : Int32)))), .val (.int (own_pick [(0 : Int32), (9 : Int32), (13 : Int32), (32 : Int32), (55295 : Int32), (55296 : Int32), (57343 : Int32), (57344 : Int32), (65533 : Int32), (65535 : Int32), (65536 : Int32), (1114111 : Int32), (-2147483648 : Int32), (2147483647 : Int32)] ((((p1.toUInt32 >>> ((1 : Int32) &&& 31).toUInt32).toInt32) &&& (2147483647 : Int32)) % (14 : Int32))))]) rfl ?_
      show Steps p.tables e below (T15.setTop (mkF m 118 #[.val (.int p0), .val (.int p1), .val (.int p2), .val (.ref b1), .val (.int ((own_pick [(0 : Int32), (9 : Int32), (13 : Int32), (32 : Int32), (55295 : Int32), (55296 : Int32), (57343 : Int32), (57344 : Int32), (65533 : Int32), (65535 : Int32), (65536 : Int32), (1114111 : Int32), (-2147483648 : Int32), (2147483647 : Int32)] ((((p1.toUInt32 >>> ((1 : Int32) &&& 31).toUInt32).toInt32) &&& (2147483647 : Int32)) % (14 : Int32))) + ((p2 &&& (7 : Int32)) - (4 : Int32)))), .val (.int (own_pick [(0 : Int32), (9 : Int32), (13 : Int32), (32 : Int32), (55295 : Int32), (55296 : Int32), (57343 : Int32), (57344 : Int32), (65533 : Int32), (65535 : Int32), (65536 : Int32), (1114111 : Int32), (-2147483648 : Int32), (2147483647 : Int32)] ((((p1.toUInt32 >>> ((1 : Int32) &&& 31).toUInt32).toInt32) &&& (2147483647 : Int32)) % (14 : Int32))))] [])) t
      refine XS.iload X15.here hx rfl (hb hby at_118) rfl ?_
      exact kt
    refine OGo.callS X15 hx hZ (y := (⟨"com/example/cadmus/cadmus/xdm/XmlChars", "isChar", "(I)Z"⟩ : MethodName)) hown (own_wd hw 11 rfl) (own_wd hw 12 rfl) (own_wd hw 13 rfl) (own_wd hw 14 rfl) (by decide) (rm1 l Z az hw [] ((own_pick [(0 : Int32), (9 : Int32), (13 : Int32), (32 : Int32), (55295 : Int32), (55296 : Int32), (57343 : Int32), (57344 : Int32), (65533 : Int32), (65535 : Int32), (65536 : Int32), (1114111 : Int32), (-2147483648 : Int32), (2147483647 : Int32)] ((((p1.toUInt32 >>> ((1 : Int32) &&& 31).toUInt32).toInt32) &&& (2147483647 : Int32)) % (14 : Int32))) + ((p2 &&& (7 : Int32)) - (4 : Int32))) h15 n0 (Nat.le_trans Z0 KC15.1)) (W := 0) (by decide) (by decide) (g := (mkF m 120 #[.val (.int p0), .val (.int p1), .val (.int p2), .val (.ref b1), .val (.int ((own_pick [(0 : Int32), (9 : Int32), (13 : Int32), (32 : Int32), (55295 : Int32), (55296 : Int32), (57343 : Int32), (57344 : Int32), (65533 : Int32), (65535 : Int32), (65536 : Int32), (1114111 : Int32), (-2147483648 : Int32), (2147483647 : Int32)] ((((p1.toUInt32 >>> ((1 : Int32) &&& 31).toUInt32).toInt32) &&& (2147483647 : Int32)) % (14 : Int32))) + ((p2 &&& (7 : Int32)) - (4 : Int32)))), .val (.int (own_pick [(0 : Int32), (9 : Int32), (13 : Int32), (32 : Int32), (55295 : Int32), (55296 : Int32), (57343 : Int32), (57344 : Int32), (65533 : Int32), (65535 : Int32), (65536 : Int32), (1114111 : Int32), (-2147483648 : Int32), (2147483647 : Int32)] ((((p1.toUInt32 >>> ((1 : Int32) &&& 31).toUInt32).toInt32) &&& (2147483647 : Int32)) % (14 : Int32))))] [(.int ((own_pick [(0 : Int32), (9 : Int32), (13 : Int32), (32 : Int32), (55295 : Int32), (55296 : Int32), (57343 : Int32), (57344 : Int32), (65533 : Int32), (65535 : Int32), (65536 : Int32), (1114111 : Int32), (-2147483648 : Int32), (2147483647 : Int32)] ((((p1.toUInt32 >>> ((1 : Int32) &&& 31).toUInt32).toInt32) &&& (2147483647 : Int32)) % (14 : Int32))) + ((p2 &&& (7 : Int32)) - (4 : Int32))))])) rfl (by rw [hml]; rfl) (argsL := [(.int ((own_pick [(0 : Int32), (9 : Int32), (13 : Int32), (32 : Int32), (55295 : Int32), (55296 : Int32), (57343 : Int32), (57344 : Int32), (65533 : Int32), (65535 : Int32), (65536 : Int32), (1114111 : Int32), (-2147483648 : Int32), (2147483647 : Int32)] ((((p1.toUInt32 >>> ((1 : Int32) &&& 31).toUInt32).toInt32) &&& (2147483647 : Int32)) % (14 : Int32))) + ((p2 &&& (7 : Int32)) - (4 : Int32))))]) (rest := []) (lenOf pd_0_0 rfl) rfl (by show 2 * 0 + _ ≤ _; exact Nat.le_of_eq rfl) (hb hby at_120) rfl e15 (by decide) (by decide) ?_
    rintro _ T20 L20 X20 ⟨rfl, Nq20, e20⟩
    have N20 := Fr.app N15 Nq20
    show OGo _ _ _ _ _ _ _ (T20.setTop (mkF m 123 #[.val (.int p0), .val (.int p1), .val (.int p2), .val (.ref b1), .val (.int ((own_pick [(0 : Int32), (9 : Int32), (13 : Int32), (32 : Int32), (55295 : Int32), (55296 : Int32), (57343 : Int32), (57344 : Int32), (65533 : Int32), (65535 : Int32), (65536 : Int32), (1114111 : Int32), (-2147483648 : Int32), (2147483647 : Int32)] ((((p1.toUInt32 >>> ((1 : Int32) &&& 31).toUInt32).toInt32) &&& (2147483647 : Int32)) % (14 : Int32))) + ((p2 &&& (7 : Int32)) - (4 : Int32)))), .val (.int (own_pick [(0 : Int32), (9 : Int32), (13 : Int32), (32 : Int32), (55295 : Int32), (55296 : Int32), (57343 : Int32), (57344 : Int32), (65533 : Int32), (65535 : Int32), (65536 : Int32), (1114111 : Int32), (-2147483648 : Int32), (2147483647 : Int32)] ((((p1.toUInt32 >>> ((1 : Int32) &&& 31).toUInt32).toInt32) &&& (2147483647 : Int32)) % (14 : Int32))))] [(.int (f1 ((own_pick [(0 : Int32), (9 : Int32), (13 : Int32), (32 : Int32), (55295 : Int32), (55296 : Int32), (57343 : Int32), (57344 : Int32), (65533 : Int32), (65535 : Int32), (65536 : Int32), (1114111 : Int32), (-2147483648 : Int32), (2147483647 : Int32)] ((((p1.toUInt32 >>> ((1 : Int32) &&& 31).toUInt32).toInt32) &&& (2147483647 : Int32)) % (14 : Int32))) + ((p2 &&& (7 : Int32)) - (4 : Int32)))))]))
    refine OGo.step (F' := T20.setTop (mkF m 125 #[.val (.int p0), .val (.int p1), .val (.int p2), .val (.ref b1), .val (.int ((own_pick [(0 : Int32), (9 : Int32), (13 : Int32), (32 : Int32), (55295 : Int32), (55296 : Int32), (57343 : Int32), (57344 : Int32), (65533 : Int32), (65535 : Int32), (65536 : Int32), (1114111 : Int32), (-2147483648 : Int32), (2147483647 : Int32)] ((((p1.toUInt32 >>> ((1 : Int32) &&& 31).toUInt32).toInt32) &&& (2147483647 : Int32)) % (14 : Int32))) + ((p2 &&& (7 : Int32)) - (4 : Int32)))), .val (.int (own_pick [(0 : Int32), (9 : Int32), (13 : Int32), (32 : Int32), (55295 : Int32), (55296 : Int32), (57343 : Int32), (57344 : Int32), (65533 : Int32), (65535 : Int32), (65536 : Int32), (1114111 : Int32), (-2147483648 : Int32), (2147483647 : Int32)] ((((p1.toUInt32 >>> ((1 : Int32) &&& 31).toUInt32).toInt32) &&& (2147483647 : Int32)) % (14 : Int32))))] [(.int ((own_pick [(0 : Int32), (9 : Int32), (13 : Int32), (32 : Int32), (55295 : Int32), (55296 : Int32), (57343 : Int32), (57344 : Int32), (65533 : Int32), (65535 : Int32), (65536 : Int32), (1114111 : Int32), (-2147483648 : Int32), (2147483647 : Int32)] ((((p1.toUInt32 >>> ((1 : Int32) &&& 31).toUInt32).toInt32) &&& (2147483647 : Int32)) % (14 : Int32))) + ((p2 &&& (7 : Int32)) - (4 : Int32)))), (.int (f1 ((own_pick [(0 : Int32), (9 : Int32), (13 : Int32), (32 : Int32), (55295 : Int32), (55296 : Int32), (57343 : Int32), (57344 : Int32), (65533 : Int32), (65535 : Int32), (65536 : Int32), (1114111 : Int32), (-2147483648 : Int32), (2147483647 : Int32)] ((((p1.toUInt32 >>> ((1 : Int32) &&& 31).toUInt32).toInt32) &&& (2147483647 : Int32)) % (14 : Int32))) + ((p2 &&& (7 : Int32)) - (4 : Int32)))))])) (fun t kt => ?_) ?_
    · show Steps p.tables e below (T20.setTop (mkF m 123 #[.val (.int p0), .val (.int p1), .val (.int p2), .val (.ref b1), .val (.int ((own_pick [(0 : Int32), (9 : Int32), (13 : Int32), (32 : Int32), (55295 : Int32), (55296 : Int32), (57343 : Int32), (57344 : Int32), (65533 : Int32), (65535 : Int32), (65536 : Int32), (1114111 : Int32), (-2147483648 : Int32), (2147483647 : Int32)] ((((p1.toUInt32 >>> ((1 : Int32) &&& 31).toUInt32).toInt32) &&& (2147483647 : Int32)) % (14 : Int32))) + ((p2 &&& (7 : Int32)) - (4 : Int32)))), .val (.int (own_pick [(0 : Int32), (9 : Int32), (13 : Int32), (32 : Int32), (55295 : Int32), (55296 : Int32), (57343 : Int32), (57344 : Int32), (65533 : Int32), (65535 : Int32), (65536 : Int32), (1114111 : Int32), (-2147483648 : Int32), (2147483647 : Int32)] ((((p1.toUInt32 >>> ((1 : Int32) &&& 31).toUInt32).toInt32) &&& (2147483647 : Int32)) % (14 : Int32))))] [(.int (f1 ((own_pick [(0 : Int32), (9 : Int32), (13 : Int32), (32 : Int32), (55295 : Int32), (55296 : Int32), (57343 : Int32), (57344 : Int32), (65533 : Int32), (65535 : Int32), (65536 : Int32), (1114111 : Int32), (-2147483648 : Int32), (2147483647 : Int32)] ((((p1.toUInt32 >>> ((1 : Int32) &&& 31).toUInt32).toInt32) &&& (2147483647 : Int32)) % (14 : Int32))) + ((p2 &&& (7 : Int32)) - (4 : Int32)))))])) t
      refine XS.iload X20.here hx rfl (hb hby at_123) rfl ?_
      exact kt
    refine OGo.callS X20 hx hZ (y := (⟨"com/example/cadmus/cadmus/xdm/XmlCharsIsCharPinLaw", "reference", "(I)Z"⟩ : MethodName)) hown (own_wd hw 17 rfl) (own_wd hw 18 rfl) (own_wd hw 19 rfl) (own_wd hw 20 rfl) (by decide) (rm2 l Z az hw [] ((own_pick [(0 : Int32), (9 : Int32), (13 : Int32), (32 : Int32), (55295 : Int32), (55296 : Int32), (57343 : Int32), (57344 : Int32), (65533 : Int32), (65535 : Int32), (65536 : Int32), (1114111 : Int32), (-2147483648 : Int32), (2147483647 : Int32)] ((((p1.toUInt32 >>> ((1 : Int32) &&& 31).toUInt32).toInt32) &&& (2147483647 : Int32)) % (14 : Int32))) + ((p2 &&& (7 : Int32)) - (4 : Int32))) h15 n0 (Nat.le_trans Z0 KC15.1)) (W := 1) (by decide) (by decide) (g := (mkF m 125 #[.val (.int p0), .val (.int p1), .val (.int p2), .val (.ref b1), .val (.int ((own_pick [(0 : Int32), (9 : Int32), (13 : Int32), (32 : Int32), (55295 : Int32), (55296 : Int32), (57343 : Int32), (57344 : Int32), (65533 : Int32), (65535 : Int32), (65536 : Int32), (1114111 : Int32), (-2147483648 : Int32), (2147483647 : Int32)] ((((p1.toUInt32 >>> ((1 : Int32) &&& 31).toUInt32).toInt32) &&& (2147483647 : Int32)) % (14 : Int32))) + ((p2 &&& (7 : Int32)) - (4 : Int32)))), .val (.int (own_pick [(0 : Int32), (9 : Int32), (13 : Int32), (32 : Int32), (55295 : Int32), (55296 : Int32), (57343 : Int32), (57344 : Int32), (65533 : Int32), (65535 : Int32), (65536 : Int32), (1114111 : Int32), (-2147483648 : Int32), (2147483647 : Int32)] ((((p1.toUInt32 >>> ((1 : Int32) &&& 31).toUInt32).toInt32) &&& (2147483647 : Int32)) % (14 : Int32))))] [(.int ((own_pick [(0 : Int32), (9 : Int32), (13 : Int32), (32 : Int32), (55295 : Int32), (55296 : Int32), (57343 : Int32), (57344 : Int32), (65533 : Int32), (65535 : Int32), (65536 : Int32), (1114111 : Int32), (-2147483648 : Int32), (2147483647 : Int32)] ((((p1.toUInt32 >>> ((1 : Int32) &&& 31).toUInt32).toInt32) &&& (2147483647 : Int32)) % (14 : Int32))) + ((p2 &&& (7 : Int32)) - (4 : Int32)))), (.int (f1 ((own_pick [(0 : Int32), (9 : Int32), (13 : Int32), (32 : Int32), (55295 : Int32), (55296 : Int32), (57343 : Int32), (57344 : Int32), (65533 : Int32), (65535 : Int32), (65536 : Int32), (1114111 : Int32), (-2147483648 : Int32), (2147483647 : Int32)] ((((p1.toUInt32 >>> ((1 : Int32) &&& 31).toUInt32).toInt32) &&& (2147483647 : Int32)) % (14 : Int32))) + ((p2 &&& (7 : Int32)) - (4 : Int32)))))])) rfl (by rw [hml]; rfl) (argsL := [(.int ((own_pick [(0 : Int32), (9 : Int32), (13 : Int32), (32 : Int32), (55295 : Int32), (55296 : Int32), (57343 : Int32), (57344 : Int32), (65533 : Int32), (65535 : Int32), (65536 : Int32), (1114111 : Int32), (-2147483648 : Int32), (2147483647 : Int32)] ((((p1.toUInt32 >>> ((1 : Int32) &&& 31).toUInt32).toInt32) &&& (2147483647 : Int32)) % (14 : Int32))) + ((p2 &&& (7 : Int32)) - (4 : Int32))))]) (rest := [(.int (f1 ((own_pick [(0 : Int32), (9 : Int32), (13 : Int32), (32 : Int32), (55295 : Int32), (55296 : Int32), (57343 : Int32), (57344 : Int32), (65533 : Int32), (65535 : Int32), (65536 : Int32), (1114111 : Int32), (-2147483648 : Int32), (2147483647 : Int32)] ((((p1.toUInt32 >>> ((1 : Int32) &&& 31).toUInt32).toInt32) &&& (2147483647 : Int32)) % (14 : Int32))) + ((p2 &&& (7 : Int32)) - (4 : Int32)))))]) (lenOf pd_0_0 rfl) rfl (by show 2 * 0 + _ ≤ _; exact Nat.le_of_eq rfl) (hb hby at_125) rfl e20 (by decide) (by decide) ?_
    rintro _ T21 L21 X21 ⟨rfl, Nq21, e21⟩
    have N21 := Fr.app N20 Nq21
    show OGo _ _ _ _ _ _ _ (T21.setTop (mkF m 128 #[.val (.int p0), .val (.int p1), .val (.int p2), .val (.ref b1), .val (.int ((own_pick [(0 : Int32), (9 : Int32), (13 : Int32), (32 : Int32), (55295 : Int32), (55296 : Int32), (57343 : Int32), (57344 : Int32), (65533 : Int32), (65535 : Int32), (65536 : Int32), (1114111 : Int32), (-2147483648 : Int32), (2147483647 : Int32)] ((((p1.toUInt32 >>> ((1 : Int32) &&& 31).toUInt32).toInt32) &&& (2147483647 : Int32)) % (14 : Int32))) + ((p2 &&& (7 : Int32)) - (4 : Int32)))), .val (.int (own_pick [(0 : Int32), (9 : Int32), (13 : Int32), (32 : Int32), (55295 : Int32), (55296 : Int32), (57343 : Int32), (57344 : Int32), (65533 : Int32), (65535 : Int32), (65536 : Int32), (1114111 : Int32), (-2147483648 : Int32), (2147483647 : Int32)] ((((p1.toUInt32 >>> ((1 : Int32) &&& 31).toUInt32).toInt32) &&& (2147483647 : Int32)) % (14 : Int32))))] [(.int (f2 ((own_pick [(0 : Int32), (9 : Int32), (13 : Int32), (32 : Int32), (55295 : Int32), (55296 : Int32), (57343 : Int32), (57344 : Int32), (65533 : Int32), (65535 : Int32), (65536 : Int32), (1114111 : Int32), (-2147483648 : Int32), (2147483647 : Int32)] ((((p1.toUInt32 >>> ((1 : Int32) &&& 31).toUInt32).toInt32) &&& (2147483647 : Int32)) % (14 : Int32))) + ((p2 &&& (7 : Int32)) - (4 : Int32))))), (.int (f1 ((own_pick [(0 : Int32), (9 : Int32), (13 : Int32), (32 : Int32), (55295 : Int32), (55296 : Int32), (57343 : Int32), (57344 : Int32), (65533 : Int32), (65535 : Int32), (65536 : Int32), (1114111 : Int32), (-2147483648 : Int32), (2147483647 : Int32)] ((((p1.toUInt32 >>> ((1 : Int32) &&& 31).toUInt32).toInt32) &&& (2147483647 : Int32)) % (14 : Int32))) + ((p2 &&& (7 : Int32)) - (4 : Int32)))))]))
    by_cases hc128 : (f1 ((own_pick [(0 : Int32), (9 : Int32), (13 : Int32), (32 : Int32), (55295 : Int32), (55296 : Int32), (57343 : Int32), (57344 : Int32), (65533 : Int32), (65535 : Int32), (65536 : Int32), (1114111 : Int32), (-2147483648 : Int32), (2147483647 : Int32)] ((((p1.toUInt32 >>> ((1 : Int32) &&& 31).toUInt32).toInt32) &&& (2147483647 : Int32)) % (14 : Int32))) + ((p2 &&& (7 : Int32)) - (4 : Int32)))) = (f2 ((own_pick [(0 : Int32), (9 : Int32), (13 : Int32), (32 : Int32), (55295 : Int32), (55296 : Int32), (57343 : Int32), (57344 : Int32), (65533 : Int32), (65535 : Int32), (65536 : Int32), (1114111 : Int32), (-2147483648 : Int32), (2147483647 : Int32)] ((((p1.toUInt32 >>> ((1 : Int32) &&& 31).toUInt32).toInt32) &&& (2147483647 : Int32)) % (14 : Int32))) + ((p2 &&& (7 : Int32)) - (4 : Int32))))
    · refine OGo.step (F' := T21.setTop (mkF m 131 #[.val (.int p0), .val (.int p1), .val (.int p2), .val (.ref b1), .val (.int ((own_pick [(0 : Int32), (9 : Int32), (13 : Int32), (32 : Int32), (55295 : Int32), (55296 : Int32), (57343 : Int32), (57344 : Int32), (65533 : Int32), (65535 : Int32), (65536 : Int32), (1114111 : Int32), (-2147483648 : Int32), (2147483647 : Int32)] ((((p1.toUInt32 >>> ((1 : Int32) &&& 31).toUInt32).toInt32) &&& (2147483647 : Int32)) % (14 : Int32))) + ((p2 &&& (7 : Int32)) - (4 : Int32)))), .val (.int (own_pick [(0 : Int32), (9 : Int32), (13 : Int32), (32 : Int32), (55295 : Int32), (55296 : Int32), (57343 : Int32), (57344 : Int32), (65533 : Int32), (65535 : Int32), (65536 : Int32), (1114111 : Int32), (-2147483648 : Int32), (2147483647 : Int32)] ((((p1.toUInt32 >>> ((1 : Int32) &&& 31).toUInt32).toInt32) &&& (2147483647 : Int32)) % (14 : Int32))))] [])) (fun t kt => ?_) ?_
      · show Steps p.tables e below (T21.setTop (mkF m 128 #[.val (.int p0), .val (.int p1), .val (.int p2), .val (.ref b1), .val (.int ((own_pick [(0 : Int32), (9 : Int32), (13 : Int32), (32 : Int32), (55295 : Int32), (55296 : Int32), (57343 : Int32), (57344 : Int32), (65533 : Int32), (65535 : Int32), (65536 : Int32), (1114111 : Int32), (-2147483648 : Int32), (2147483647 : Int32)] ((((p1.toUInt32 >>> ((1 : Int32) &&& 31).toUInt32).toInt32) &&& (2147483647 : Int32)) % (14 : Int32))) + ((p2 &&& (7 : Int32)) - (4 : Int32)))), .val (.int (own_pick [(0 : Int32), (9 : Int32), (13 : Int32), (32 : Int32), (55295 : Int32), (55296 : Int32), (57343 : Int32), (57344 : Int32), (65533 : Int32), (65535 : Int32), (65536 : Int32), (1114111 : Int32), (-2147483648 : Int32), (2147483647 : Int32)] ((((p1.toUInt32 >>> ((1 : Int32) &&& 31).toUInt32).toInt32) &&& (2147483647 : Int32)) % (14 : Int32))))] [(.int (f2 ((own_pick [(0 : Int32), (9 : Int32), (13 : Int32), (32 : Int32), (55295 : Int32), (55296 : Int32), (57343 : Int32), (57344 : Int32), (65533 : Int32), (65535 : Int32), (65536 : Int32), (1114111 : Int32), (-2147483648 : Int32), (2147483647 : Int32)] ((((p1.toUInt32 >>> ((1 : Int32) &&& 31).toUInt32).toInt32) &&& (2147483647 : Int32)) % (14 : Int32))) + ((p2 &&& (7 : Int32)) - (4 : Int32))))), (.int (f1 ((own_pick [(0 : Int32), (9 : Int32), (13 : Int32), (32 : Int32), (55295 : Int32), (55296 : Int32), (57343 : Int32), (57344 : Int32), (65533 : Int32), (65535 : Int32), (65536 : Int32), (1114111 : Int32), (-2147483648 : Int32), (2147483647 : Int32)] ((((p1.toUInt32 >>> ((1 : Int32) &&& 31).toUInt32).toInt32) &&& (2147483647 : Int32)) % (14 : Int32))) + ((p2 &&& (7 : Int32)) - (4 : Int32)))))])) t
        refine XS.icmpNo X21.here hx rfl (hb hby at_128) rfl (teq hc128).2 ?_
        exact kt
      refine OGo.step (F' := T21.setTop (mkF m 136 #[.val (.int p0), .val (.int p1), .val (.int p2), .val (.ref b1), .val (.int ((own_pick [(0 : Int32), (9 : Int32), (13 : Int32), (32 : Int32), (55295 : Int32), (55296 : Int32), (57343 : Int32), (57344 : Int32), (65533 : Int32), (65535 : Int32), (65536 : Int32), (1114111 : Int32), (-2147483648 : Int32), (2147483647 : Int32)] ((((p1.toUInt32 >>> ((1 : Int32) &&& 31).toUInt32).toInt32) &&& (2147483647 : Int32)) % (14 : Int32))) + ((p2 &&& (7 : Int32)) - (4 : Int32)))), .val (.int (own_pick [(0 : Int32), (9 : Int32), (13 : Int32), (32 : Int32), (55295 : Int32), (55296 : Int32), (57343 : Int32), (57344 : Int32), (65533 : Int32), (65535 : Int32), (65536 : Int32), (1114111 : Int32), (-2147483648 : Int32), (2147483647 : Int32)] ((((p1.toUInt32 >>> ((1 : Int32) &&& 31).toUInt32).toInt32) &&& (2147483647 : Int32)) % (14 : Int32))))] [(.int (1 : Int32))])) (fun t kt => ?_) ?_
      · show Steps p.tables e below (T21.setTop (mkF m 131 #[.val (.int p0), .val (.int p1), .val (.int p2), .val (.ref b1), .val (.int ((own_pick [(0 : Int32), (9 : Int32), (13 : Int32), (32 : Int32), (55295 : Int32), (55296 : Int32), (57343 : Int32), (57344 : Int32), (65533 : Int32), (65535 : Int32), (65536 : Int32), (1114111 : Int32), (-2147483648 : Int32), (2147483647 : Int32)] ((((p1.toUInt32 >>> ((1 : Int32) &&& 31).toUInt32).toInt32) &&& (2147483647 : Int32)) % (14 : Int32))) + ((p2 &&& (7 : Int32)) - (4 : Int32)))), .val (.int (own_pick [(0 : Int32), (9 : Int32), (13 : Int32), (32 : Int32), (55295 : Int32), (55296 : Int32), (57343 : Int32), (57344 : Int32), (65533 : Int32), (65535 : Int32), (65536 : Int32), (1114111 : Int32), (-2147483648 : Int32), (2147483647 : Int32)] ((((p1.toUInt32 >>> ((1 : Int32) &&& 31).toUInt32).toInt32) &&& (2147483647 : Int32)) % (14 : Int32))))] [])) t
        refine XS.iconst X21.here hx rfl (hb hby at_131) ?_
        show Steps p.tables e below (T21.setTop (mkF m 132 #[.val (.int p0), .val (.int p1), .val (.int p2), .val (.ref b1), .val (.int ((own_pick [(0 : Int32), (9 : Int32), (13 : Int32), (32 : Int32), (55295 : Int32), (55296 : Int32), (57343 : Int32), (57344 : Int32), (65533 : Int32), (65535 : Int32), (65536 : Int32), (1114111 : Int32), (-2147483648 : Int32), (2147483647 : Int32)] ((((p1.toUInt32 >>> ((1 : Int32) &&& 31).toUInt32).toInt32) &&& (2147483647 : Int32)) % (14 : Int32))) + ((p2 &&& (7 : Int32)) - (4 : Int32)))), .val (.int (own_pick [(0 : Int32), (9 : Int32), (13 : Int32), (32 : Int32), (55295 : Int32), (55296 : Int32), (57343 : Int32), (57344 : Int32), (65533 : Int32), (65535 : Int32), (65536 : Int32), (1114111 : Int32), (-2147483648 : Int32), (2147483647 : Int32)] ((((p1.toUInt32 >>> ((1 : Int32) &&& 31).toUInt32).toInt32) &&& (2147483647 : Int32)) % (14 : Int32))))] [(.int (1 : Int32))])) t
        refine XS.goto X21.here hx rfl (pc0 := 132) (pc' := 136) rfl (hb hby at_132) (by decide) (by decide) ?_
        exact kt
      refine OGo.retZ X21 hx hlk (t := .boolean) (z' := (1 : Int32)) hret (by simp) (hb hby at_136) rfl ?_ (by decide) (by decide)
      show Q0 Z p0 p1 p2 h0 n0 _ T21.heap _
      rw [e21]
      exact ⟨(by rw [f0, if_neg hc85, if_pos hc128]), N21, KC15⟩
    · refine OGo.step (F' := T21.setTop (mkF m 135 #[.val (.int p0), .val (.int p1), .val (.int p2), .val (.ref b1), .val (.int ((own_pick [(0 : Int32), (9 : Int32), (13 : Int32), (32 : Int32), (55295 : Int32), (55296 : Int32), (57343 : Int32), (57344 : Int32), (65533 : Int32), (65535 : Int32), (65536 : Int32), (1114111 : Int32), (-2147483648 : Int32), (2147483647 : Int32)] ((((p1.toUInt32 >>> ((1 : Int32) &&& 31).toUInt32).toInt32) &&& (2147483647 : Int32)) % (14 : Int32))) + ((p2 &&& (7 : Int32)) - (4 : Int32)))), .val (.int (own_pick [(0 : Int32), (9 : Int32), (13 : Int32), (32 : Int32), (55295 : Int32), (55296 : Int32), (57343 : Int32), (57344 : Int32), (65533 : Int32), (65535 : Int32), (65536 : Int32), (1114111 : Int32), (-2147483648 : Int32), (2147483647 : Int32)] ((((p1.toUInt32 >>> ((1 : Int32) &&& 31).toUInt32).toInt32) &&& (2147483647 : Int32)) % (14 : Int32))))] [])) (fun t kt => ?_) ?_
      · show Steps p.tables e below (T21.setTop (mkF m 128 #[.val (.int p0), .val (.int p1), .val (.int p2), .val (.ref b1), .val (.int ((own_pick [(0 : Int32), (9 : Int32), (13 : Int32), (32 : Int32), (55295 : Int32), (55296 : Int32), (57343 : Int32), (57344 : Int32), (65533 : Int32), (65535 : Int32), (65536 : Int32), (1114111 : Int32), (-2147483648 : Int32), (2147483647 : Int32)] ((((p1.toUInt32 >>> ((1 : Int32) &&& 31).toUInt32).toInt32) &&& (2147483647 : Int32)) % (14 : Int32))) + ((p2 &&& (7 : Int32)) - (4 : Int32)))), .val (.int (own_pick [(0 : Int32), (9 : Int32), (13 : Int32), (32 : Int32), (55295 : Int32), (55296 : Int32), (57343 : Int32), (57344 : Int32), (65533 : Int32), (65535 : Int32), (65536 : Int32), (1114111 : Int32), (-2147483648 : Int32), (2147483647 : Int32)] ((((p1.toUInt32 >>> ((1 : Int32) &&& 31).toUInt32).toInt32) &&& (2147483647 : Int32)) % (14 : Int32))))] [(.int (f2 ((own_pick [(0 : Int32), (9 : Int32), (13 : Int32), (32 : Int32), (55295 : Int32), (55296 : Int32), (57343 : Int32), (57344 : Int32), (65533 : Int32), (65535 : Int32), (65536 : Int32), (1114111 : Int32), (-2147483648 : Int32), (2147483647 : Int32)] ((((p1.toUInt32 >>> ((1 : Int32) &&& 31).toUInt32).toInt32) &&& (2147483647 : Int32)) % (14 : Int32))) + ((p2 &&& (7 : Int32)) - (4 : Int32))))), (.int (f1 ((own_pick [(0 : Int32), (9 : Int32), (13 : Int32), (32 : Int32), (55295 : Int32), (55296 : Int32), (57343 : Int32), (57344 : Int32), (65533 : Int32), (65535 : Int32), (65536 : Int32), (1114111 : Int32), (-2147483648 : Int32), (2147483647 : Int32)] ((((p1.toUInt32 >>> ((1 : Int32) &&& 31).toUInt32).toInt32) &&& (2147483647 : Int32)) % (14 : Int32))) + ((p2 &&& (7 : Int32)) - (4 : Int32)))))])) t
        refine XS.icmpYes X21.here hx rfl (pc0 := 128) (pc' := 135) rfl (hb hby at_128) rfl (feq hc128).2 (by decide) (by decide) ?_
        exact kt
      refine OGo.step (F' := T21.setTop (mkF m 136 #[.val (.int p0), .val (.int p1), .val (.int p2), .val (.ref b1), .val (.int ((own_pick [(0 : Int32), (9 : Int32), (13 : Int32), (32 : Int32), (55295 : Int32), (55296 : Int32), (57343 : Int32), (57344 : Int32), (65533 : Int32), (65535 : Int32), (65536 : Int32), (1114111 : Int32), (-2147483648 : Int32), (2147483647 : Int32)] ((((p1.toUInt32 >>> ((1 : Int32) &&& 31).toUInt32).toInt32) &&& (2147483647 : Int32)) % (14 : Int32))) + ((p2 &&& (7 : Int32)) - (4 : Int32)))), .val (.int (own_pick [(0 : Int32), (9 : Int32), (13 : Int32), (32 : Int32), (55295 : Int32), (55296 : Int32), (57343 : Int32), (57344 : Int32), (65533 : Int32), (65535 : Int32), (65536 : Int32), (1114111 : Int32), (-2147483648 : Int32), (2147483647 : Int32)] ((((p1.toUInt32 >>> ((1 : Int32) &&& 31).toUInt32).toInt32) &&& (2147483647 : Int32)) % (14 : Int32))))] [(.int (0 : Int32))])) (fun t kt => ?_) ?_
      · show Steps p.tables e below (T21.setTop (mkF m 135 #[.val (.int p0), .val (.int p1), .val (.int p2), .val (.ref b1), .val (.int ((own_pick [(0 : Int32), (9 : Int32), (13 : Int32), (32 : Int32), (55295 : Int32), (55296 : Int32), (57343 : Int32), (57344 : Int32), (65533 : Int32), (65535 : Int32), (65536 : Int32), (1114111 : Int32), (-2147483648 : Int32), (2147483647 : Int32)] ((((p1.toUInt32 >>> ((1 : Int32) &&& 31).toUInt32).toInt32) &&& (2147483647 : Int32)) % (14 : Int32))) + ((p2 &&& (7 : Int32)) - (4 : Int32)))), .val (.int (own_pick [(0 : Int32), (9 : Int32), (13 : Int32), (32 : Int32), (55295 : Int32), (55296 : Int32), (57343 : Int32), (57344 : Int32), (65533 : Int32), (65535 : Int32), (65536 : Int32), (1114111 : Int32), (-2147483648 : Int32), (2147483647 : Int32)] ((((p1.toUInt32 >>> ((1 : Int32) &&& 31).toUInt32).toInt32) &&& (2147483647 : Int32)) % (14 : Int32))))] [])) t
        refine XS.iconst X21.here hx rfl (hb hby at_135) ?_
        exact kt
      refine OGo.retZ X21 hx hlk (t := .boolean) (z' := (0 : Int32)) hret (by simp) (hb hby at_136) rfl ?_ (by decide) (by decide)
      show Q0 Z p0 p1 p2 h0 n0 _ T21.heap _
      rw [e21]
      exact ⟨(by rw [f0, if_neg hc85, if_neg hc128]), N21, KC15⟩
theorem own_law (a b d : Int32) : f0 a b d = 1 := by
  unfold f0
  simp only [own_same]
  split <;> rfl
set_option maxRecDepth 65536 in
set_option maxHeartbeats 40000000 in
theorem comes_1 {Post : Tables → Env → Array Value → State → Outcome → State → Prop} (hpost : ∀ tb e args s v u, (limb_1_1.after args s (.returned v) u = true ∧ limb_1_2.after args s (.returned v) u = true ∧ True) → FrameEnd s (.returned v) u (Jvm.fieldLocs frame_1_writes args s ++ Jvm.arrayLocs frame_1_arrays args s ++ Jvm.staticLocs frame_1_statics s) 16 128 → Post tb e args s (.returned v) u) :
    ArmFor flags0 classFile x code maxLocals ret World_1 tables_1 room_1 Calls_1 rest_1 Pre_1 Post := by
  intro l hfl _ _ p e ha hc hk s m args below hf hA hF happ hP
  obtain ⟨hcalls, hrest, hpre⟩ := hP
  obtain ⟨-, -, -, hnamed, -, -, -, hat⟩ := (Spec.applies_iff hf).mp happ
  obtain ⟨hg, hn⟩ := and_e (Cond.before_iff.mp (show (Jvm.Cond.and given_1 narrow_1).before args s = true from hpre))
  obtain ⟨gc, gr0⟩ := and_e hg
  obtain ⟨ga0, gr1⟩ := and_e gr0
  obtain ⟨ga1, gr2⟩ := and_e gr1
  have ga2 := gr2
  obtain ⟨w0, w1, w2, rfl⟩ : ∃ w0 w1 w2 : Value, args = #[w0, w1, w2] := by
    have hs : args.size = 3 := by simpa [Cond.value, given_1] using gc
    obtain ⟨L⟩ := args
    match L, hs with
    | [w0, w1, w2], _ => exact ⟨w0, w1, w2, rfl⟩
  have hw := fun d (hd : d ∈ tables_1) => atoms_spec (ws := Jvm.Cond.code x code maxLocals ret :: tables_1) hat d (List.mem_cons_of_mem _ hd)
  have hfit : Fit s := fun {y c} hc i hi => by
    obtain ⟨ha, rfl⟩ := Array.getElem?_eq_some_iff.mp hc
    have q := List.all_eq_true.mp ((Array.all_eq_true_iff_forall_mem.mp hF) _ (Array.getElem_mem ha)) i (List.mem_range.mpr hi)
    simpa [Array.getElem?_eq_getElem hi] using q
  obtain ⟨i0, ei0⟩ := is_v ga0
  obtain rfl : w0 = (.int i0) := Option.some.inj ei0
  obtain ⟨i1, ei1⟩ := is_v ga1
  obtain rfl : w1 = (.int i1) := Option.some.inj ei1
  obtain ⟨i2, ei2⟩ := is_v ga2
  obtain rfl : w2 = (.int i2) := Option.some.inj ei2
  obtain ⟨n, o, h1, h2, h3, _, L, rfl, ⟨hv, N, -⟩, hq⟩ := rm0 l s _ hw tables_1 i0 i1 i2 s.heap s.heap.size (Nat.le_refl _) p e ha hc hk s m _ below hf ((Spec.applies_iff_loose hf).mp happ).1 ⟨rfl, State.Warmed39.refl s, rfl⟩ trivial
  rw [own_law] at hv
  subst hv
  refine ⟨n, _, h1, h2, h3, hpost _ _ _ _ _ _ ⟨Cond.after_iff.mpr rfl, Cond.after_iff.mpr (eq_i res_at (Term.int_eval (1)) rfl), trivial⟩ ⟨hq.1, hq.2.1, (hq.2.2.sift fun y hy => Or.inr (N y hy)).mono (by decide) (by decide)⟩⟩
theorem main_1_1 : Claimed_1_1 := comes_1 fun _ _ _ _ _ _ h hF => ⟨h.1, hF⟩
theorem main_1_2 : Claimed_1_2 := comes_1 fun _ _ _ _ _ _ h hF => ⟨h.2.1, hF⟩
end Jvm.Pilot.@@N@@
namespace Jvm.Pilot.@@N@@
open Jvm Jvm.ClassFile Sem Op Lib Jvm.Free Jvm.Stand Jvm.Pilot.@@N@@.Jvm.D
/-! MADE BY PROGRAM (witnessworld.py) out of the Statement's table words and the real class files: 9 classes; the members and pool entries that the words name. The judged class is class 1, her method 2. -/
namespace start1
open Jvm.ClassFile
def u (s : String) : CpInfo := .utf8 (stringToUtf16 s)
/-- a pool by its gaps: so many unusable entries, then the entry; so many at the end -/
def gap : Nat → List CpInfo → List CpInfo
  | 0, r => r
  | n + 1, r => .unusable :: gap n r
def poolList (es : List (Nat × CpInfo)) (last : Nat) : List CpInfo := es.foldr (fun e r => gap e.1 (e.2 :: r)) (gap last [])
def pool (es : List (Nat × CpInfo)) (last : Nat) : Array CpInfo := ⟨poolList es last⟩
def fileOf (pool : Array CpInfo) (this : Nat) (attrs : Array Attribute := #[]) (ms : Array MethodInfo := #[]) (fl : Nat := 33) (sup : Nat := 0) (ifs : Array Nat := #[]) (fds : Array FieldInfo := #[]) : ClassFile where
  minorVersion := 0
  majorVersion := 65
  constantPool := pool
  accessFlags := fl
  thisClass := this
  superClass := sup
  interfaces := ifs
  fields := fds
  methods := ms
  attributes := attrs
def plain (name : String) (sup : Option ClassId) : Class where
  name := name
  kind := .ordinary
  loader := none
  accessFlags := 33
  super := sup
  interfaces := #[]
  cf := none
  fields := #[]
  methods := #[]
  instanceTypes := #[]
  staticTypes := #[]
  resolved := #[]
  callSites := []
  init := .initialized
  statics := none
  mirror := none

def pool0 : Array CpInfo := pool [(5, u "<init>"), (0, u "()V"), (1, .class_ 10), (1, u "java/lang/Object")] 113

def k0m0 : Method := { name := "<init>", desc := "()V", sig := { parameters := [], returnType := none }, accessFlags := 1, code := none }
/-- java/lang/Object -/
def k0 : Class := { plain "java/lang/Object" none with
  accessFlags := 33
  interfaces := #[]
  cf := some (fileOf pool0 8 #[] #[{ accessFlags := 1, nameIndex := 5, descriptorIndex := 6, attributes := #[] }] 33 0 #[] #[])
  fields := #[]
  methods := #[k0m0]
  instanceTypes := #[]
  staticTypes := #[]
  resolved := Array.replicate 124 none
  statics := none }

def pool1 : Array CpInfo := pool [(2, .class_ 4), (1, u "java/lang/Object"), (0, u "<init>"), (0, u "()V"), (0, .integer 1114111), (0, .integer 55296), (0, .integer 57343), (0, .integer 65534), (0, .integer 65535), (0, .integer 55295), (0, .integer 57344), (0, .integer 65533), (0, .integer 65536), (2, .integer 2147483648), (0, .integer 2147483647), (0, .methodref 21 22), (0, .class_ 23), (0, .nameAndType 24 25), (0, u "com/example/cadmus/cadmus/xdm/XmlChars"), (0, u "isChar"), (0, u "(I)Z"), (0, .methodref 27 28), (0, .class_ 29), (0, .nameAndType 30 25), (0, u "com/example/cadmus/cadmus/xdm/XmlCharsIsCharPinLaw"), (0, u "reference"), (3, u "law"), (0, u "(III)Z")] 4

def k1m0 : Method := { name := "<init>", desc := "()V", sig := { parameters := [], returnType := none }, accessFlags := 2, code := none }
def k1c1 : Code := { maxStack := 2, maxLocals := 1, code := method_2_code, exceptionTable := #[], attributes := #[] }
def k1m1 : Method := { name := "reference", desc := "(I)Z", sig := { parameters := [.int], returnType := some .boolean }, accessFlags := 10, code := some k1c1 }
def k1c2 : Code := { maxStack := 4, maxLocals := 6, code := code, exceptionTable := #[], attributes := #[] }
def k1m2 : Method := { name := "law", desc := "(III)Z", sig := { parameters := [.int, .int, .int], returnType := some .boolean }, accessFlags := 9, code := some k1c2 }
/-- com/example/cadmus/cadmus/xdm/XmlCharsIsCharPinLaw -/
def k1 : Class := { plain "com/example/cadmus/cadmus/xdm/XmlCharsIsCharPinLaw" (some 0) with
  accessFlags := 49
  interfaces := #[]
  cf := some (fileOf pool1 27 #[] #[{ accessFlags := 2, nameIndex := 5, descriptorIndex := 6, attributes := #[] }, { accessFlags := 10, nameIndex := 30, descriptorIndex := 25, attributes := #[] }, { accessFlags := 9, nameIndex := 34, descriptorIndex := 35, attributes := #[] }] 49 2 #[] #[])
  fields := #[]
  methods := #[k1m0, k1m1, k1m2]
  instanceTypes := #[]
  staticTypes := #[]
  resolved := Array.replicate 40 none
  statics := none }

def pool2 : Array CpInfo := pool [(2, .class_ 4), (1, u "java/lang/Object"), (0, u "<init>"), (0, u "()V"), (0, .integer 55295), (0, .integer 57344), (0, .integer 65533), (0, .integer 65536), (0, .integer 1114111), (1, .class_ 15), (1, u "com/example/cadmus/cadmus/xdm/XmlChars"), (0, u "NAME_START"), (0, u "[[I"), (6, u "NAME_ONLY"), (27, u "(I)Z"), (14, u "isChar")] 10

def k2m0 : Method := { name := "<init>", desc := "()V", sig := { parameters := [], returnType := none }, accessFlags := 2, code := none }
def k2c1 : Code := { maxStack := 2, maxLocals := 1, code := prog_193_method_2_code, exceptionTable := #[], attributes := #[] }
def k2m1 : Method := { name := "isChar", desc := "(I)Z", sig := { parameters := [.int], returnType := some .boolean }, accessFlags := 9, code := some k2c1 }
/-- com/example/cadmus/cadmus/xdm/XmlChars -/
def k2 : Class := { plain "com/example/cadmus/cadmus/xdm/XmlChars" (some 0) with
  accessFlags := 33
  interfaces := #[]
  cf := some (fileOf pool2 13 #[] #[{ accessFlags := 2, nameIndex := 5, descriptorIndex := 6, attributes := #[] }, { accessFlags := 9, nameIndex := 67, descriptorIndex := 52, attributes := #[] }] 33 2 #[] #[{ accessFlags := 26, nameIndex := 16, descriptorIndex := 17, attributes := #[] }, { accessFlags := 26, nameIndex := 24, descriptorIndex := 17, attributes := #[] }])
  fields := #[{ name := "NAME_START", type := (.array (.array .int)), accessFlags := 26, slot := 0, constantValue := 0 }, { name := "NAME_ONLY", type := (.array (.array .int)), accessFlags := 26, slot := 1, constantValue := 0 }]
  methods := #[k2m0, k2m1]
  instanceTypes := #[]
  staticTypes := #[(.array (.array .int)), (.array (.array .int))]
  resolved := Array.replicate 78 none
  statics := none }

def pool3 : Array CpInfo := pool [(1, u "java/lang/Cloneable"), (0, .class_ 1), (0, u "java/lang/Object"), (0, .class_ 3)] 3

/-- java/lang/Cloneable -/
def k3 : Class := { plain "java/lang/Cloneable" (some 0) with
  accessFlags := 1537
  interfaces := #[]
  cf := some (fileOf pool3 2 #[] #[] 1537 4 #[] #[])
  fields := #[]
  methods := #[]
  instanceTypes := #[]
  staticTypes := #[]
  resolved := Array.replicate 8 none
  statics := none }

def pool4 : Array CpInfo := pool [(1, u "java/io/Serializable"), (0, .class_ 1), (0, u "java/lang/Object"), (0, .class_ 3)] 3

/-- java/io/Serializable -/
def k4 : Class := { plain "java/io/Serializable" (some 0) with
  accessFlags := 1537
  interfaces := #[]
  cf := some (fileOf pool4 2 #[] #[] 1537 4 #[] #[])
  fields := #[]
  methods := #[]
  instanceTypes := #[]
  staticTypes := #[]
  resolved := Array.replicate 8 none
  statics := none }

/-- the primitive byte -/
def k5 : Class := { plain "byte" none with kind := .primitive 'B', accessFlags := 0x411 }
/-- [B -/
def k6 : Class := { plain "[B" (some 0) with kind := .array 5 .byte, interfaces := #[3, 4], accessFlags := 1041 }

/-- the primitive int -/
def k7 : Class := { plain "int" none with kind := .primitive 'I', accessFlags := 0x411 }
/-- [I -/
def k8 : Class := { plain "[I" (some 0) with kind := .array 7 .int, interfaces := #[3, 4], accessFlags := 1041 }

def heap : Heap := #[]
def classes : Array Class := #[k0, k1, k2, k3, k4, k5, k6, k7, k8]
def interned : List (Array UInt16 × Addr) := []
def slotsUsed : Nat := 0
def theMethod : MethodId := ⟨1, 2⟩
def args0 : Array Value := #[.int 5, .int 3, .int 2]
def aboutOver (below : List Frame) : State where
  vm := { classes := classes, interned := interned.toArray }
  heap := heap
  slotsUsed := slotsUsed
  threads := #[{ frames := .invoking theMethod args0 :: below }]
def below0 : List Frame := [.native { method := ⟨0, 0⟩, args := #[] }]
def about1 : State := aboutOver below0
def p0 : Program := .bare "" "" ""
def e0 : Env := launch0.env 0 0 0
theorem w_frames : about1.frames = Frame.invoking theMethod args0 :: below0 := rfl
set_option maxRecDepth 65536 in
theorem w_args : argsFit about1.vm theMethod args0 = true := by decide +kernel
set_option maxRecDepth 65536 in
theorem w_heap : heapFits about1 = true := by decide +kernel
set_option maxRecDepth 65536 in
theorem w_runnable : about1.curStatus? = some .runnable := by decide +kernel
set_option maxRecDepth 65536 in
theorem w_alone : about1.alone = true := by decide +kernel
set_option maxRecDepth 65536 in
theorem w_named : about1.methodNamed? x = some theMethod := by decide +kernel
set_option maxRecDepth 65536 in
theorem w_hears : about1.hears theMethod below0 = true := by decide +kernel
set_option maxRecDepth 65536 in
theorem w_ripe : about1.ripe theMethod args0 below0 = true := by decide +kernel
theorem w_running : about1.status = .running := rfl
set_option maxRecDepth 65536 in
theorem w_room : about1.hasRoom e0.platform room_1 = true :=
  launch0.hasRoom_least _ room_1 (by decide +kernel) (by decide +kernel) (by decide +kernel) (by decide +kernel) (by decide +kernel) (by decide +kernel)
theorem allAtoms_all (ts : List Jvm.Cond) (a : Array Jvm.Value) (st : Jvm.State) : (allAtoms ts).before a st = ts.all (fun c => c.before a st) := by
  induction ts with
  | nil => rfl
  | cons c t ih =>
    show (Jvm.Cond.and c (allAtoms t)).before a st = _
    rw [Jvm.Cond.before_and, ih, List.all_cons]
def words1 : List Jvm.Cond := Jvm.Cond.code x code maxLocals ret :: tables_1
/-- a 'code' word, met by the world's own term for the bytes: nothing is compared byte by byte -/
theorem code_word {y : MethodName} {bytes : ByteArray} {mx : Nat} {rt : Option FieldType} {a : Array Value} {s : State} {m : MethodId} {meth : Method} {c : Code} (h1 : s.methodNamed? y = some m) (h2 : s.vm.method? m = some meth) (h3 : meth.code = some c) (h4 : c.code = bytes)
    (h5 : (c.maxLocals == mx && c.exceptionTable.isEmpty && decide (c.maxStack ≤ mostOperands) && decide (meth.sig.returnType = rt) && !meth.locks && decide (parseMethodDescriptor y.desc = some meth.sig)) = true) : (Jvm.Cond.code y bytes mx rt).before a s = true := by
  simp only [Bool.and_eq_true, beq_iff_eq, Bool.not_eq_true', decide_eq_true_eq] at h5
  obtain ⟨⟨⟨⟨⟨g1, g2⟩, g3⟩, g4⟩, g5⟩, g6⟩ := h5
  simp [Cond.before, Cond.holds, Cond.value, h1, h2, h3, h4, g1, g2, g3, g4, g5, g6]
def isCode : Jvm.Cond → Bool
  | .code _ _ _ _ => true
  | _ => false
theorem all_split {L : List Jvm.Cond} {P : Jvm.Cond → Bool} (h1 : L.all (fun c => isCode c || P c) = true) (h2 : ∀ c ∈ L.filter isCode, P c = true) : L.all P = true := by
  refine List.all_eq_true.mpr fun c hc => ?_
  have h := List.all_eq_true.mp h1 c hc
  rcases Bool.eq_false_or_eq_true (isCode c) with hi | hi
  · exact h2 c (List.mem_filter.mpr ⟨hc, hi⟩)
  · simpa [hi] using h
set_option maxRecDepth 65536 in
theorem w_c0 : (Jvm.Cond.code x code maxLocals ret).before args0 about1 = true := code_word (m := ⟨1, 2⟩) (meth := k1m2) (c := k1c2) (by decide +kernel) rfl rfl rfl (by decide +kernel)
set_option maxRecDepth 65536 in
theorem w_c1 : (Jvm.Cond.code ({ cls := "com/example/cadmus/cadmus/xdm/XmlChars", name := "isChar", desc := "(I)Z" } : Jvm.MethodName) prog_193_method_2_code (1 : Nat) (Option.some Jvm.ClassFile.FieldType.boolean)).before args0 about1 = true := code_word (m := ⟨2, 1⟩) (meth := k2m1) (c := k2c1) (by decide +kernel) rfl rfl rfl (by decide +kernel)
set_option maxRecDepth 65536 in
theorem w_c2 : (Jvm.Cond.code ({ cls := "com/example/cadmus/cadmus/xdm/XmlCharsIsCharPinLaw", name := "reference", desc := "(I)Z" } : Jvm.MethodName) method_2_code (1 : Nat) (Option.some Jvm.ClassFile.FieldType.boolean)).before args0 about1 = true := code_word (m := ⟨1, 1⟩) (meth := k1m1) (c := k1c1) (by decide +kernel) rfl rfl rfl (by decide +kernel)
def codes1 : List Jvm.Cond := [Jvm.Cond.code x code maxLocals ret, Jvm.Cond.code ({ cls := "com/example/cadmus/cadmus/xdm/XmlChars", name := "isChar", desc := "(I)Z" } : Jvm.MethodName) prog_193_method_2_code (1 : Nat) (Option.some Jvm.ClassFile.FieldType.boolean), Jvm.Cond.code ({ cls := "com/example/cadmus/cadmus/xdm/XmlCharsIsCharPinLaw", name := "reference", desc := "(I)Z" } : Jvm.MethodName) method_2_code (1 : Nat) (Option.some Jvm.ClassFile.FieldType.boolean)]
set_option maxRecDepth 65536 in
theorem codes_eq : words1.filter isCode = codes1 := rfl
theorem w_codes : ∀ c ∈ words1.filter isCode, c.before args0 about1 = true := by
  rw [codes_eq]
  intro c hc
  simp only [codes1, List.mem_cons, List.not_mem_nil, or_false] at hc
  rcases hc with rfl | rfl | rfl
  · exact w_c0
  · exact w_c1
  · exact w_c2
set_option maxRecDepth 65536 in
theorem w_t1 : (words1.take 24).all (fun c => isCode c || c.before args0 about1) = true := by decide +kernel
set_option maxRecDepth 65536 in
theorem w_t2 : (words1.drop 24).all (fun c => isCode c || c.before args0 about1) = true := by decide +kernel
theorem w_tables : (allAtoms (Jvm.Cond.code x code maxLocals ret :: tables_1)).before args0 about1 = true := by
  rw [allAtoms_all]
  show words1.all (fun c => c.before args0 about1) = true
  refine all_split ?_ w_codes
  rw [← List.take_append_drop 24 words1, List.all_append, w_t1, w_t2]
  rfl
set_option maxRecDepth 65536 in
theorem w_case : (Jvm.Cond.and given_1 narrow_1).before args0 about1 = true := by decide +kernel
theorem w_applies : (headSpec (Jvm.Cond.code x code maxLocals ret :: tables_1) room_1).applies x e0.platform about1 = true :=
  (Spec.applies_iff w_frames).mpr ⟨w_running, w_runnable, w_alone, w_named, w_hears, w_ripe, w_room, w_tables⟩
theorem atStart : AtStart classFile x code maxLocals ret World_1 tables_1 room_1 Calls_1 rest_1 Pre_1 launch0 p0 e0 about1 theMethod args0 below0 :=
  ⟨lists_1, trivial, launch0.admits_env _ _ _, launch0.least_env, fairChoices_fair.cas, fairChoices_fair.clock, w_frames, w_args, w_heap, w_applies, trivial, trivial, w_case⟩
end start1
theorem witness_1 : WitnessClaimed_1 := ⟨start1.p0, start1.e0, start1.about1, start1.theMethod, start1.args0, start1.below0, start1.atStart⟩
end Jvm.Pilot.@@N@@
