import JvmDerived
import JvmDerived.Pilot.@@N@@Statement
import JvmDerived.Pilot.@@N@@Code
set_option linter.unusedVariables false
set_option linter.unusedSimpArgs false
namespace Jvm.Pilot.@@N@@
open Jvm Jvm.ClassFile Sem Op Lib Jvm.Free Jvm.Stand Jvm.LawKit Jvm.RoadKit Bundle Jvm.Pilot.@@N@@.Jvm.D
section OwnKit
variable {p : Program} {l : Launch} {e : Env} {R : Room} {s : State} {m : MethodId} {args : Array Value} {below : List Frame} {meth : Method} {c : Code} {T : State} {locs : List Loc} {cells slots : Nat} {Z : State} {a0 : Array Value} {h : Heap} {Q : Option Value → Heap → List Loc → Prop} {kc ks : Nat}
/-- from the state F the run comes to its return, with what Q says -/
def OGo (p : Program) (e : Env) (below : List Frame) (s : State) (Q : Option Value → Heap → List Loc → Prop) (kc ks : Nat) (F : State) : Prop :=
  ∃ (s₂ : State) (o : Outcome), Steps p.tables e below F s₂ ∧ s₂.status = .running ∧ Ended s₂ below o ∧ ∃ v L, o = .returned v ∧ Q v s₂.heap L ∧ FrameEnd s o s₂ L kc ks
theorem OGo.step {F F' : State} (k : ∀ t, Steps p.tables e below F' t → Steps p.tables e below F t) (g : OGo p e below s Q kc ks F') : OGo p e below s Q kc ks F := by
  obtain ⟨s₂, o, h, r⟩ := g
  exact ⟨s₂, o, k _ h, r⟩
theorem OGo.retOut (X : Stand p l e R s m args below meth c T locs cells slots) (hx : p.tables.exec = Jvm.exec) (hlk : meth.locks = false) {pc : Nat} {Ls : Array Slot} {w : Value} {t : FieldType} {i : Instr} {rest : List Value} (hret : meth.sig.returnType = some t) (hn : narrow t w = w)
    (hi : (i = .ireturn ∧ (t = .int ∨ t = .boolean ∨ t = .byte ∨ t = .char ∨ t = .short) ∧ ∃ z, w = .int z) ∨ (i = .lreturn ∧ t = .long ∧ ∃ z, w = .long z) ∨ (i = .dreturn ∧ t = .double ∧ ∃ z, w = .double z) ∨ (i = .freturn ∧ t = .float ∧ ∃ z, w = .float z) ∨ (i = .areturn ∧ t.isReference = true ∧ w.isRef = true))
    (hd : decode c.code pc = .ok (i, 1)) (hQ : Q (some w) T.heap locs) (hc : cells ≤ kc) (hs : slots ≤ ks) : OGo p e below s Q kc ks (T.setTop (mkF m pc Ls (w :: rest))) := by
  obtain ⟨fs, hr, hrun, hended, hW, hsame⟩ := X.leave (v := some w) (fun h => by rw [hret] at h; cases h) hlk
  exact ⟨_, _, Jvm.RoadKit.retOut X hx hret hn hi hd hr, hrun, hended, _, _, rfl, hQ, ⟨_, rfl⟩, hW, hsame.mono hc hs⟩
theorem OGo.retI (X : Stand p l e R s m args below meth c T locs cells slots) (hx : p.tables.exec = Jvm.exec) (hlk : meth.locks = false) {pc : Nat} {Ls : Array Slot} {z : Int32} {rest : List Value} (hret : meth.sig.returnType = some .int) (hd : decode c.code pc = .ok (.ireturn, 1)) (hQ : Q (some (.int z)) T.heap locs) (hc : cells ≤ kc) (hs : slots ≤ ks) :
    OGo p e below s Q kc ks (T.setTop (mkF m pc Ls (.int z :: rest))) := OGo.retOut X hx hlk hret rfl (Or.inl ⟨rfl, Or.inl rfl, _, rfl⟩) hd hQ hc hs
theorem OGo.retJ (X : Stand p l e R s m args below meth c T locs cells slots) (hx : p.tables.exec = Jvm.exec) (hlk : meth.locks = false) {pc : Nat} {Ls : Array Slot} {z : Int64} {rest : List Value} (hret : meth.sig.returnType = some .long) (hd : decode c.code pc = .ok (.lreturn, 1)) (hQ : Q (some (.long z)) T.heap locs) (hc : cells ≤ kc) (hs : slots ≤ ks) :
    OGo p e below s Q kc ks (T.setTop (mkF m pc Ls (.long z :: rest))) := OGo.retOut X hx hlk hret rfl (Or.inr (Or.inl ⟨rfl, rfl, _, rfl⟩)) hd hQ hc hs
theorem OGo.retA (X : Stand p l e R s m args below meth c T locs cells slots) (hx : p.tables.exec = Jvm.exec) (hlk : meth.locks = false) {pc : Nat} {Ls : Array Slot} {w : Value} {t : FieldType} {rest : List Value} (hret : meth.sig.returnType = some t) (ht : t.isReference = true) (hw : w.isRef = true) (hn : narrow t w = w) (hd : decode c.code pc = .ok (.areturn, 1)) (hQ : Q (some w) T.heap locs) (hc : cells ≤ kc) (hs : slots ≤ ks) :
    OGo p e below s Q kc ks (T.setTop (mkF m pc Ls (w :: rest))) := OGo.retOut X hx hlk hret hn (Or.inr (Or.inr (Or.inr (Or.inr ⟨rfl, ht, hw⟩)))) hd hQ hc hs
theorem OGo.retZ (X : Stand p l e R s m args below meth c T locs cells slots) (hx : p.tables.exec = Jvm.exec) (hlk : meth.locks = false) {pc : Nat} {Ls : Array Slot} {z z' : Int32} {t : FieldType} {rest : List Value} (hret : meth.sig.returnType = some t) (ht : t = .boolean ∨ t = .byte ∨ t = .char ∨ t = .short) (hd : decode c.code pc = .ok (.ireturn, 1)) (hz : nar t z = z') (hQ : Q (some (.int z')) T.heap locs) (hc : cells ≤ kc) (hs : slots ≤ ks) :
    OGo p e below s Q kc ks (T.setTop (mkF m pc Ls (.int z :: rest))) := by
  subst hz
  obtain ⟨fs, hr, hrun, hended, hW, hsame⟩ := X.leave (v := some (.int (nar t z))) (fun h => by rw [hret] at h; cases h) hlk
  exact ⟨_, _, Jvm.RoadKit.retN X hx hret ht hd hr, hrun, hended, _, _, rfl, hQ, ⟨_, rfl⟩, hW, hsame.mono hc hs⟩
theorem OGo.retV (X : Stand p l e R s m args below meth c T locs cells slots) (hx : p.tables.exec = Jvm.exec) (hlk : meth.locks = false) {pc : Nat} {Ls : Array Slot} (hret : meth.sig.returnType = none) (hd : decode c.code pc = .ok (.return_, 1)) (hQ : Q none T.heap locs) (hc : cells ≤ kc) (hs : slots ≤ ks) :
    OGo p e below s Q kc ks (T.setTop (mkF m pc Ls [])) := by
  obtain ⟨fs, hr, hrun, hended, hW, hsame⟩ := X.leave (v := none) (fun _ => rfl) hlk
  exact ⟨_, _, X.returnOut hx hret hd hr, hrun, hended, _, _, rfl, hQ, ⟨_, rfl⟩, hW, hsame.mono hc hs⟩
/-- a body's contract -/
abbrev OCtr (l : Launch) (Z : State) (y : MethodName) (bytes : ByteArray) (maxL : Nat) (ret : Option FieldType) (ws : List Jvm.Cond) (rm : Room) (as' : Array Value) (h0 : Heap) (Q : Option Value → Heap → List Loc → Prop) : Prop :=
  MetFree l y (head1 (Jvm.Cond.code y bytes maxL ret :: ws) rm) (fun a U => a = as' ∧ Z.Warmed39 U.vm ∧ U.heap = h0) (fun _ _ _ _ _ => True) (fun _ U o U' => ∃ v L, o = .returned v ∧ Q v U'.heap L ∧ FrameEnd U o U' L rm.cells rm.slots)
theorem OCtr.of {y : MethodName} {bytes : ByteArray} {maxL : Nat} {ret : Option FieldType} {ws : List Jvm.Cond} {rm : Room} {as' : Array Value} (hp : plainFor y = true)
    (k : ∀ (p : Program) (e : Env) (s : State) (m : MethodId) (below : List Frame) (meth : Method) (c : Code) (s₁ : State), Stand p l e rm s m as' below meth c s₁ [] 0 0 → p.tables.exec = Jvm.exec → meth.locks = false → Z.Warmed39 s.vm → s.vm.findClass y.cls = some m.cls → meth.name = y.name → c.code = bytes → c.maxLocals = maxL → meth.sig.returnType = ret → s₁.heap = h →
      OGo p e below s Q rm.cells rm.slots (s₁.setTop (entryFrame m as' maxL))) : OCtr l Z y bytes maxL ret ws rm as' h Q := by
  refine MetFree.of_bodySF hp hisR ?_
  intro p e s m args below meth c s₁ Bd hml0 hP hK
  obtain ⟨rfl, hZ, hh⟩ := hP
  exact k p e s m below meth c s₁ (Stand.of_body Bd) Bd.exec Bd.notSynchronized hZ (findClass_of_methodNamed Bd.named) (name_of_methodNamed Bd.named Bd.method).1 Bd.bytes hml0 Bd.returns (by rw [← hh, Bd.state]; rfl)
/-- it returns w, and the heap is as it was -/
def OPure (w : Option Value) (h0 : Heap) (n0 : Nat) : Option Value → Heap → List Loc → Prop := fun v h L => v = w ∧ Fr n0 L ∧ h = h0
theorem OGo.callS (X : Stand p l e R s m args below meth c T locs cells slots) (hx : p.tables.exec = Jvm.exec) (hZ : Z.Warmed39 s.vm) {own : String} {index : Nat} {y : MethodName} {bytes : ByteArray} {maxL : Nat} {ret : Option FieldType} (hown : s.vm.findClass own = some m.cls)
    (wl : (Jvm.Cond.methodLink own index y).before a0 Z = true) (wst : (Jvm.Cond.static y).before a0 Z = true) (wi : (Jvm.Cond.initialized y.cls).before a0 Z = true) (wc : (Jvm.Cond.code y bytes maxL ret).before a0 Z = true) (hy : y.cls ≠ "java/lang/invoke/MethodHandle" ∧ y.cls ≠ "java/lang/invoke/VarHandle")
    {rm : Room} {as' : Array Value} {Q' : Option Value → Heap → List Loc → Prop} (hM : OCtr l Z y bytes maxL ret [] rm as' h Q') {W : Nat} (hf : rm.frames + 1 ≤ R.frames) (hl : W + (maxL + 11) + rm.locals ≤ R.locals)
    {g : JFrame} (hg : g.method = m) (hsize : g.locals.size = c.maxLocals) {argsL rest : List Value} (hlen : ∀ sig, parseMethodDescriptor y.desc = some sig → argsL.length = sig.parameters.length) (hstack : g.stack = argsL.reverse ++ rest) (hW : 2 * g.monitorRoom + (rest.map fun v => v.category).sum ≤ W) (hdg : decode c.code g.pc = .ok (.invokestatic index, 3))
    (ha : argsL.toArray = as') (e0 : T.heap = h) (hc : cells + rm.cells ≤ R.cells) (hs : slots + rm.slots ≤ R.slots)
    (k : ∀ (v : Option Value) (T' : State) (L' : List Loc), Stand p l e R s m args below meth c T' (locs ++ L') (cells + rm.cells) (slots + rm.slots) → Q' v T'.heap L' → OGo p e below s Q kc ks (T'.setTop { g with pc := g.pc + 3, stack := v.toList ++ rest })) : OGo p e below s Q kc ks (T.setTop g) := by
  obtain ⟨v, _, ⟨T', L', k', n'⟩, -, X', ⟨Lc, hQ, l', y', z'⟩, st⟩ := Jvm.LawKit.callS X hx hown (mvT hZ wl) (mvT hZ wst) (mvT hZ wi) (mvT hZ wc) hy (backOf (W := W) hM hZ wc wi hf hl) hg hsize hlen hstack hW hdg (fun _ _ => ⟨ha, e0, hc, hs⟩)
  dsimp only [Pt.U, Pt.locs, Pt.cells, Pt.slots] at X' l' y' z' st hQ
  subst l' y' z'
  exact OGo.step st (k v T' Lc X' hQ)
theorem OGo.callV (X : Stand p l e R s m args below meth c T locs cells slots) (hx : p.tables.exec = Jvm.exec) (hZ : Z.Warmed39 s.vm) {own C : String} {index : Nat} {y z : MethodName} {bytes : ByteArray} {maxL : Nat} {ret : Option FieldType} (hown : s.vm.findClass own = some m.cls)
    (wl : (Jvm.Cond.methodLink own index y).before a0 Z = true) (wd : (Jvm.Cond.declares y).before a0 Z = true) (hnf : NotFace s y) (wsel : (Jvm.Cond.selects C y z).before a0 Z = true) (win : (Jvm.Cond.instanceMethod z).before a0 Z = true) (wi : (Jvm.Cond.initialized z.cls).before a0 Z = true) (wc : (Jvm.Cond.code z bytes maxL ret).before a0 Z = true) (hy : y.cls ≠ "java/lang/invoke/MethodHandle" ∧ y.cls ≠ "java/lang/invoke/VarHandle")
    {rm : Room} {as' : Array Value} {Q' : Option Value → Heap → List Loc → Prop} (hM : OCtr l Z z bytes maxL ret [] rm as' h Q') {W : Nat} (hf : rm.frames + 1 ≤ R.frames) (hl : W + (maxL + 11) + rm.locals ≤ R.locals) {b : Addr} (E : Exa Z h b C)
    {g : JFrame} (hg : g.method = m) (hsize : g.locals.size = c.maxLocals) {argsL rest : List Value} (hlen : ∀ sig, parseMethodDescriptor y.desc = some sig → argsL.length = sig.parameters.length) (hstack : g.stack = argsL.reverse ++ .ref b :: rest) (hW : 2 * g.monitorRoom + (rest.map fun v => v.category).sum ≤ W) (hdg : decode c.code g.pc = .ok (.invokevirtual index, 3))
    (ha : (.ref b :: argsL).toArray = as') (e0 : T.heap = h) (hc : cells + rm.cells ≤ R.cells) (hs : slots + rm.slots ≤ R.slots)
    (k : ∀ (v : Option Value) (T' : State) (L' : List Loc), Stand p l e R s m args below meth c T' (locs ++ L') (cells + rm.cells) (slots + rm.slots) → Q' v T'.heap L' → OGo p e below s Q kc ks (T'.setTop { g with pc := g.pc + 3, stack := v.toList ++ rest })) : OGo p e below s Q kc ks (T.setTop g) := by
  obtain ⟨cq, kq, q1, q2, q3⟩ := isOf hZ e0 E
  obtain ⟨v, _, ⟨T', L', k', n'⟩, -, X', ⟨Lc, hQ, l', y', z'⟩, st⟩ := X.virtualBack hx hown (mvT hZ wl) (mvT hZ wd) hnf (mvT hZ wsel) (mvT hZ win) hy (backOf (W := W) hM hZ wc wi hf hl) q1 q3 hg hsize (Steps.refl _) hlen hstack hW hdg (fun _ _ => ⟨ha, e0, hc, hs⟩)
  dsimp only [Pt.U, Pt.locs, Pt.cells, Pt.slots] at X' l' y' z' st hQ
  subst l' y' z'
  exact OGo.step (fun t q => st.trans q) (k v T' Lc X' hQ)
theorem OGo.callC (X : Stand p l e R s m args below meth c T locs cells slots) (hx : p.tables.exec = Jvm.exec) (hZ : Z.Warmed39 s.vm) {own : String} {index : Nat} {y : MethodName} {bytes : ByteArray} {maxL : Nat} (hy1 : y.name = "<init>") (hown : s.vm.findClass own = some m.cls)
    (wl : (Jvm.Cond.methodLink own index y).before a0 Z = true) (win : (Jvm.Cond.instanceMethod y).before a0 Z = true) (wi : (Jvm.Cond.initialized y.cls).before a0 Z = true) (wc : (Jvm.Cond.code y bytes maxL none).before a0 Z = true) (hy : y.cls ≠ "java/lang/invoke/MethodHandle" ∧ y.cls ≠ "java/lang/invoke/VarHandle")
    {rm : Room} {as' : Array Value} {Q' : Option Value → Heap → List Loc → Prop} (hM : OCtr l Z y bytes maxL none [] rm as' h Q') {W : Nat} (hf : rm.frames + 1 ≤ R.frames) (hl : W + (maxL + 11) + rm.locals ≤ R.locals) {b : Addr}
    {g : JFrame} (hg : g.method = m) (hsize : g.locals.size = c.maxLocals) {argsL rest : List Value} (hlen : ∀ sig, parseMethodDescriptor y.desc = some sig → argsL.length = sig.parameters.length) (hstack : g.stack = argsL.reverse ++ .ref b :: rest) (hW : 2 * g.monitorRoom + (rest.map fun v => v.category).sum ≤ W) (hdg : decode c.code g.pc = .ok (.invokespecial index, 3))
    (ha : (.ref b :: argsL).toArray = as') (e0 : T.heap = h) (hc : cells + rm.cells ≤ R.cells) (hs : slots + rm.slots ≤ R.slots)
    (k : ∀ (v : Option Value) (T' : State) (L' : List Loc), Stand p l e R s m args below meth c T' (locs ++ L') (cells + rm.cells) (slots + rm.slots) → Q' v T'.heap L' → OGo p e below s Q kc ks (T'.setTop { g with pc := g.pc + 3, stack := v.toList ++ rest })) : OGo p e below s Q kc ks (T.setTop g) := by
  obtain ⟨v, _, ⟨T', L', k', n'⟩, -, X', ⟨Lc, hQ, l', y', z'⟩, st⟩ := X.specialBack hx hy1 hown (mvT hZ wl) (mvT hZ win) (mvT hZ wc) hy (backOf (W := W) hM hZ wc wi hf hl) hg hsize (Steps.refl _) hlen hstack hW hdg (fun _ _ => ⟨ha, e0, hc, hs⟩)
  dsimp only [Pt.U, Pt.locs, Pt.cells, Pt.slots] at X' l' y' z' st hQ
  subst l' y' z'
  exact OGo.step (fun t q => st.trans q) (k v T' Lc X' hQ)
theorem own_wd (hw : ∀ d ∈ tables_1, d.before a0 Z = true) (i : Nat) {d : Jvm.Cond} (q : tables_1[i]? = some d) : d.before a0 Z = true := hw _ (List.mem_of_getElem? q)
theorem own_narc (x : Int32) : nar .char (x.toUInt32.toUInt16.toUInt32.toInt32) = x.toUInt32.toUInt16.toUInt32.toInt32 := by
  show x.toUInt32.toUInt16.toUInt32.toInt32.toUInt32.toUInt16.toUInt32.toInt32 = _
  simp only [UInt32.toUInt32_toInt32, UInt16.toUInt16_toUInt32]
theorem own_obj {a : Addr} {C : String} (F : Exa Z h a C) : ∃ cell : Cell, h[a]? = some cell ∧ cell.vm.isStatics = false := by
  obtain ⟨cell, _, h1, -, -, h4, -⟩ := F; exact ⟨cell, h1, h4⟩
theorem own_stakeep {h' : Heap} {ws : List Addr} {C n d : String} {v : Value} (F : Sta Z h C n d v) (K : Keep h h' ws) (q : ∀ x ∈ ws, ∃ cell : Cell, h[x]? = some cell ∧ cell.vm.isStatics = false) : Sta Z h' C n d v := by
  obtain ⟨cf, i, k, f, st, cell, h1, h2, h3, h4, h5, h6, h7⟩ := F
  refine ⟨cf, i, k, f, st, cell, h1, h2, h3, h4, K.2.1 _ _ h5 fun hm => ?_, h6, h7⟩
  obtain ⟨c', g1, g2⟩ := q _ hm
  cases g1.symm.trans h5
  rw [h6] at g2; cases g2
end OwnKit
theorem own_fld {args : Array Value} {Z : State} {t : Term} {a : Addr} {C n d : String} {k : Int32} (ev : t.eval args Z none [] Z = some (.ref a)) (q : (Jvm.Cond.eq (Term.field t C n d) (Term.int k)).value args Z none Z [] = some true) : Fld Z Z.heap a C n d (.int k) := by
  refine Fld.start ?_
  have e1 : (Term.field t C n d).eval args Z none [] Z = Z.fieldOf? a C n d := by simp [Term.eval, ev]
  have e2 : (Term.int k).eval args Z none [] Z = some (.int k) := rfl
  simp only [Cond.value, e1, e2] at q
  cases hf : Z.fieldOf? a C n d with
  | none => simp [hf] at q
  | some v => cases v <;> simp [hf] at q <;> simp [q]
theorem own_eqi {args : Array Value} {Z : State} {t : Term} {k : Int32} (q : (Jvm.Cond.eq t (Term.int k)).value args Z none Z [] = some true) : t.eval args Z none [] Z = some (.int k) := by
  have e2 : (Term.int k).eval args Z none [] Z = some (.int k) := rfl
  simp only [Cond.value, e2] at q
  cases hf : t.eval args Z none [] Z with
  | none => simp [hf] at q
  | some v => cases v <;> simp [hf] at q <;> simp [q]
theorem own_fldR {args : Array Value} {Z : State} {t : Term} {a : Addr} {C n d : String} {v : Value} (ev : t.eval args Z none [] Z = some (.ref a)) (q : (Term.field t C n d).eval args Z none [] Z = some v) : Fld Z Z.heap a C n d v := by
  refine Fld.start ?_
  rw [← q]; simp [Term.eval, ev]
theorem own_lenz {args : Array Value} {Z : State} {t : Term} {a : Addr} {cl : Cell} {z : Int32} (ev : t.eval args Z none [] Z = some (.ref a)) (A : Z.arrayAt? a = some cl) (q : (Term.length t).eval args Z none [] Z = some (.int z)) : cl.slots.size < 2 ^ 31 ∧ cl.slots.size.toInt32 = z := by
  simp only [Term.eval, ev, A, Option.bind_eq_bind, Option.bind_some] at q
  split at q
  · rename_i h; simp only [Option.pure_def, Option.some.injEq, Value.int.injEq] at q; exact ⟨h, q⟩
  · cases q
theorem own_el {args : Array Value} {Z : State} {t : Term} {a : Addr} {cl : Cell} {k x : Int32} {j : Nat} (ev : t.eval args Z none [] Z = some (.ref a)) (A : Z.arrayAt? a = some cl) (q : (Term.elem t (Term.int k)).eval args Z none [] Z = some (.int x)) (hk : ¬ k < 0) (e : k.toNatClampNeg = j) : cl.slots[j]? = some (.int x) := by
  rw [← e, ← elem_f ev (Term.int_eval k) A hk]; exact q
/-! body 1: com/example/trigrid/trigrid/Value.winFor:(Lcom/example/trigrid/trigrid/Mark;)Lcom/example/trigrid/trigrid/Value; -/
theorem d1_0 : decode prog_16_method_4_code 0 = .ok (.aload_n 0, 1) := by decide +kernel
theorem d1_1 : decode prog_16_method_4_code 1 = .ok (.getstatic 40, 3) := by decide +kernel
theorem d1_4 : decode prog_16_method_4_code 4 = .ok (.if_acmp .ne 9, 3) := by decide +kernel
theorem d1_7 : decode prog_16_method_4_code 7 = .ok (.getstatic 3, 3) := by decide +kernel
theorem d1_10 : decode prog_16_method_4_code 10 = .ok (.goto 6, 3) := by decide +kernel
theorem d1_13 : decode prog_16_method_4_code 13 = .ok (.getstatic 7, 3) := by decide +kernel
theorem d1_16 : decode prog_16_method_4_code 16 = .ok (.areturn, 1) := by decide +kernel
theorem pn_1 : plainName "com/example/trigrid/trigrid/Value" = true := by first | (simp [plainName, overriddenIn]; done) | decide +kernel
theorem ef_1 (m : MethodId) (x0 : Addr) : entryFrame m #[(.ref x0)] 1 = mkF m 0 #[.val (.ref x0)] [] := by first | (simp [entryFrame, mkF, argsToLocals, Value.category]; done) | rfl
def f1 (a0 : Addr) (w_X : Addr) (w_X_WINS : Addr) (w_O_WINS : Addr) : Addr :=
  if a0 = w_X then w_X_WINS
  else w_O_WINS
set_option maxRecDepth 65536 in
set_option maxHeartbeats 40000000 in
theorem rm1 (l : Launch) (Z : State) (az : Array Value) (hw : ∀ d ∈ tables_1, d.before az Z = true) (ws : List Jvm.Cond) (a0 : Addr) (w_X : Addr) (w_X_WINS : Addr) (w_O_WINS : Addr) (h0 : Heap) (n0 : Nat) (Z0 : n0 ≤ h0.size) (S_Mark_X : Sta Z h0 "com/example/trigrid/trigrid/Mark" "X" "Lcom/example/trigrid/trigrid/Mark;" (.ref w_X)) (S_Value_X_WINS : Sta Z h0 "com/example/trigrid/trigrid/Value" "X_WINS" "Lcom/example/trigrid/trigrid/Value;" (.ref w_X_WINS)) (S_Value_O_WINS : Sta Z h0 "com/example/trigrid/trigrid/Value" "O_WINS" "Lcom/example/trigrid/trigrid/Value;" (.ref w_O_WINS)) :
    OCtr l Z (⟨"com/example/trigrid/trigrid/Value", "winFor", "(Lcom/example/trigrid/trigrid/Mark;)Lcom/example/trigrid/trigrid/Value;"⟩ : MethodName) prog_16_method_4_code 1 (some (.object "com/example/trigrid/trigrid/Value")) ws ({ frames := 0, cells := 0, slots := 0, locals := 0 } : Room) #[(.ref a0)] h0 (OPure (some (.ref (f1 a0 w_X w_X_WINS w_O_WINS))) h0 n0) := by
  refine OCtr.of (plainFor_of_name pn_1) ?_
  intro p e s m below meth c s₁ X0 hx hlk hZ hown0 hnm hby hml0 hret e0
  have hown : s.vm.findClass "com/example/trigrid/trigrid/Value" = some m.cls := hown0
  have hml : c.maxLocals = 1 := hml0
  have N0 := Fr.nil n0
  refine OGo.step (fun t k => castTop (ef_1 m a0) k) ?_
  refine OGo.step (F' := s₁.setTop (mkF m 1 #[.val (.ref a0)] [(.ref a0)])) (fun t kt => ?_) ?_
  · show Steps p.tables e below (s₁.setTop (mkF m 0 #[.val (.ref a0)] [])) t
    refine XS.aloadN X0.here hx rfl (hb hby d1_0) rfl rfl ?_
    exact kt
  obtain ⟨T1, X1, e1, st1⟩ := getS2 X0 hx hZ hown (host := "") (Or.inl (own_wd hw 9 rfl)) Via.refl e0 S_Mark_X (g := (mkF m 1 #[.val (.ref a0)] [(.ref a0)])) rfl (hb hby d1_1)
  refine OGo.step st1 ?_
  show OGo _ _ _ _ _ _ _ (T1.setTop (mkF m 4 #[.val (.ref a0)] [(.ref w_X), (.ref a0)]))
  by_cases hc4 : a0 = w_X
  · refine OGo.step (F' := T1.setTop (mkF m 7 #[.val (.ref a0)] [])) (fun t kt => ?_) ?_
    · show Steps p.tables e below (T1.setTop (mkF m 4 #[.val (.ref a0)] [(.ref w_X), (.ref a0)])) t
      refine Jvm.RoadKit.acmp (g := (mkF m 4 #[.val (.ref a0)] [(.ref w_X), (.ref a0)])) X1 hx rfl rfl rfl (pc0 := 4) (pc' := 7) (same := true) rfl (hb hby d1_4) rfl (decide_eq_true (congrArg Value.ref hc4)) (by decide) (by decide) ?_
      exact kt
    obtain ⟨T2, X2, e2, st2⟩ := getS2 X1 hx hZ hown (host := "") (Or.inl (own_wd hw 67 rfl)) Via.refl e1 S_Value_X_WINS (g := (mkF m 7 #[.val (.ref a0)] [])) rfl (hb hby d1_7)
    refine OGo.step st2 ?_
    show OGo _ _ _ _ _ _ _ (T2.setTop (mkF m 10 #[.val (.ref a0)] [(.ref w_X_WINS)]))
    refine OGo.step (F' := T2.setTop (mkF m 16 #[.val (.ref a0)] [(.ref w_X_WINS)])) (fun t kt => ?_) ?_
    · show Steps p.tables e below (T2.setTop (mkF m 10 #[.val (.ref a0)] [(.ref w_X_WINS)])) t
      refine XS.goto X2.here hx rfl (pc0 := 10) (pc' := 16) rfl (hb hby d1_10) (by decide) (by decide) ?_
      exact kt
    refine OGo.retA X2 hx hlk (t := (.object "com/example/trigrid/trigrid/Value")) hret rfl rfl rfl (hb hby d1_16) ?_ (by decide) (by decide)
    exact ⟨(by rw [f1, if_pos hc4]), N0, e2⟩
  · refine OGo.step (F' := T1.setTop (mkF m 13 #[.val (.ref a0)] [])) (fun t kt => ?_) ?_
    · show Steps p.tables e below (T1.setTop (mkF m 4 #[.val (.ref a0)] [(.ref w_X), (.ref a0)])) t
      refine Jvm.RoadKit.acmp (g := (mkF m 4 #[.val (.ref a0)] [(.ref w_X), (.ref a0)])) X1 hx rfl rfl rfl (pc0 := 4) (pc' := 13) (same := false) rfl (hb hby d1_4) rfl (decide_eq_false fun q => hc4 (Value.ref.inj q)) (by decide) (by decide) ?_
      exact kt
    obtain ⟨T3, X3, e3, st3⟩ := getS2 X1 hx hZ hown (host := "") (Or.inl (own_wd hw 11 rfl)) Via.refl e1 S_Value_O_WINS (g := (mkF m 13 #[.val (.ref a0)] [])) rfl (hb hby d1_13)
    refine OGo.step st3 ?_
    show OGo _ _ _ _ _ _ _ (T3.setTop (mkF m 16 #[.val (.ref a0)] [(.ref w_O_WINS)]))
    refine OGo.retA X3 hx hlk (t := (.object "com/example/trigrid/trigrid/Value")) hret rfl rfl rfl (hb hby d1_16) ?_ (by decide) (by decide)
    exact ⟨(by rw [f1, if_neg hc4]), N0, e3⟩
/-! body 2: com/example/trigrid/trigrid/Value.label:()Ljava/lang/String; -/
theorem d2_0 : decode prog_16_method_5_code 0 = .ok (.aload_n 0, 1) := by decide +kernel
theorem d2_1 : decode prog_16_method_5_code 1 = .ok (.getfield 32, 3) := by decide +kernel
theorem d2_4 : decode prog_16_method_5_code 4 = .ok (.areturn, 1) := by decide +kernel
theorem pn_2 : plainName "com/example/trigrid/trigrid/Value" = true := by first | (simp [plainName, overriddenIn]; done) | decide +kernel
theorem ef_2 (m : MethodId) (x0 : Addr) : entryFrame m #[(.ref x0)] 1 = mkF m 0 #[.val (.ref x0)] [] := by first | (simp [entryFrame, mkF, argsToLocals, Value.category]; done) | rfl
def f2 (w_label_a0 : Addr) : Addr :=
  w_label_a0
set_option maxRecDepth 65536 in
set_option maxHeartbeats 40000000 in
theorem rm2 (l : Launch) (Z : State) (az : Array Value) (hw : ∀ d ∈ tables_1, d.before az Z = true) (ws : List Jvm.Cond) (a0 : Addr) (w_label_a0 : Addr) (h0 : Heap) (n0 : Nat) (Z0 : n0 ≤ h0.size) (F_label_a0 : Fld Z h0 a0 "com/example/trigrid/trigrid/Value" "label" "Ljava/lang/String;" (.ref w_label_a0)) :
    OCtr l Z (⟨"com/example/trigrid/trigrid/Value", "label", "()Ljava/lang/String;"⟩ : MethodName) prog_16_method_5_code 1 (some (.object "java/lang/String")) ws ({ frames := 0, cells := 0, slots := 0, locals := 0 } : Room) #[(.ref a0)] h0 (OPure (some (.ref (f2 w_label_a0))) h0 n0) := by
  refine OCtr.of (plainFor_of_name pn_2) ?_
  intro p e s m below meth c s₁ X0 hx hlk hZ hown0 hnm hby hml0 hret e0
  have hown : s.vm.findClass "com/example/trigrid/trigrid/Value" = some m.cls := hown0
  have hml : c.maxLocals = 1 := hml0
  have N0 := Fr.nil n0
  refine OGo.step (fun t k => castTop (ef_2 m a0) k) ?_
  refine OGo.step (F' := s₁.setTop (mkF m 1 #[.val (.ref a0)] [(.ref a0)])) (fun t kt => ?_) ?_
  · show Steps p.tables e below (s₁.setTop (mkF m 0 #[.val (.ref a0)] [])) t
    refine XS.aloadN X0.here hx rfl (hb hby d2_0) rfl rfl ?_
    exact kt
  obtain ⟨T1, X1, e1, st1⟩ := getF X0 hx hZ hown (host := "") (Or.inl (own_wd hw 19 rfl)) Via.refl e0 F_label_a0 (g := (mkF m 1 #[.val (.ref a0)] [(.ref a0)])) rfl rfl (hb hby d2_1)
  refine OGo.step st1 ?_
  show OGo _ _ _ _ _ _ _ (T1.setTop (mkF m 4 #[.val (.ref a0)] [(.ref w_label_a0)]))
  refine OGo.retA X1 hx hlk (t := (.object "java/lang/String")) hret rfl rfl rfl (hb hby d2_4) ?_ (by decide) (by decide)
  exact ⟨(by rw [f2]), N0, e1⟩
/-! body 3: java/lang/String.isEmpty:()Z -/
theorem d3_0 : decode jdk_42_method_55_code 0 = .ok (.aload_n 0, 1) := by decide +kernel
theorem d3_1 : decode jdk_42_method_55_code 1 = .ok (.getfield 9, 3) := by decide +kernel
theorem d3_4 : decode jdk_42_method_55_code 4 = .ok (.arraylength, 1) := by decide +kernel
theorem d3_5 : decode jdk_42_method_55_code 5 = .ok (.ifCond .ne 7, 3) := by decide +kernel
theorem d3_8 : decode jdk_42_method_55_code 8 = .ok (.iconst 1, 1) := by decide +kernel
theorem d3_9 : decode jdk_42_method_55_code 9 = .ok (.goto 4, 3) := by decide +kernel
theorem d3_12 : decode jdk_42_method_55_code 12 = .ok (.iconst 0, 1) := by decide +kernel
theorem d3_13 : decode jdk_42_method_55_code 13 = .ok (.ireturn, 1) := by decide +kernel
theorem pn_3 : plainName "java/lang/String" = true := by first | (simp [plainName, overriddenIn]; done) | decide +kernel
theorem ef_3 (m : MethodId) (x0 : Addr) : entryFrame m #[(.ref x0)] 1 = mkF m 0 #[.val (.ref x0)] [] := by first | (simp [entryFrame, mkF, argsToLocals, Value.category]; done) | rfl
def f3 (n_w_value_a0 : Int32) : Int32 :=
  if n_w_value_a0 = (0 : Int32) then (1 : Int32)
  else (0 : Int32)
theorem fb3 (n_w_value_a0 : Int32) : nar .boolean (f3 n_w_value_a0) = (f3 n_w_value_a0) := by
  unfold f3
  repeat' split
  all_goals first | rfl | decide
set_option maxRecDepth 65536 in
set_option maxHeartbeats 40000000 in
theorem rm3 (l : Launch) (Z : State) (az : Array Value) (hw : ∀ d ∈ tables_1, d.before az Z = true) (ws : List Jvm.Cond) (a0 : Addr) (w_value_a0 : Addr) (k_w_value_a0 : ClassId) (n_w_value_a0 : Int32) (vs_w_value_a0 : List Value) (h0 : Heap) (n0 : Nat) (Z0 : n0 ≤ h0.size) (F_value_a0 : Fld Z h0 a0 "java/lang/String" "value" "[B" (.ref w_value_a0)) (V_w_value_a0 : Arv Z h0 w_value_a0 k_w_value_a0 .byte n_w_value_a0 vs_w_value_a0 (.int (0 : Int32))) :
    OCtr l Z (⟨"java/lang/String", "isEmpty", "()Z"⟩ : MethodName) jdk_42_method_55_code 1 (some .boolean) ws ({ frames := 0, cells := 0, slots := 0, locals := 0 } : Room) #[(.ref a0)] h0 (OPure (some (.int (f3 n_w_value_a0))) h0 n0) := by
  refine OCtr.of (plainFor_of_name pn_3) ?_
  intro p e s m below meth c s₁ X0 hx hlk hZ hown0 hnm hby hml0 hret e0
  have hown : s.vm.findClass "java/lang/String" = some m.cls := hown0
  have hml : c.maxLocals = 1 := hml0
  have N0 := Fr.nil n0
  refine OGo.step (fun t k => castTop (ef_3 m a0) k) ?_
  refine OGo.step (F' := s₁.setTop (mkF m 1 #[.val (.ref a0)] [(.ref a0)])) (fun t kt => ?_) ?_
  · show Steps p.tables e below (s₁.setTop (mkF m 0 #[.val (.ref a0)] [])) t
    refine XS.aloadN X0.here hx rfl (hb hby d3_0) rfl rfl ?_
    exact kt
  obtain ⟨T1, X1, e1, st1⟩ := getF X0 hx hZ hown (host := "") (Or.inl (own_wd hw 27 rfl)) Via.refl e0 F_value_a0 (g := (mkF m 1 #[.val (.ref a0)] [(.ref a0)])) rfl rfl (hb hby d3_1)
  refine OGo.step st1 ?_
  show OGo _ _ _ _ _ _ _ (T1.setTop (mkF m 4 #[.val (.ref a0)] [(.ref w_value_a0)]))
  obtain ⟨cl2, Ar2, q2, S2, N2a, H2, G2⟩ := id (V_w_value_a0)
  refine OGo.step (F' := T1.setTop (mkF m 5 #[.val (.ref a0)] [(.int n_w_value_a0)])) (fun t kt => ?_) ?_
  · show Steps p.tables e below (T1.setTop (mkF m 4 #[.val (.ref a0)] [(.ref w_value_a0)])) t
    refine X1.arraylength hx (by rw [e1]; exact Ar2.1) (State.isArrayOf_alike hZ.alike Ar2.2.1) (g := (mkF m 4 #[.val (.ref a0)] [(.ref w_value_a0)])) rfl rfl (hb hby d3_4) _ ?_
    rw [len_of S2 N2a]
    exact kt
  by_cases hc5 : n_w_value_a0 = (0 : Int32)
  · refine OGo.step (F' := T1.setTop (mkF m 8 #[.val (.ref a0)] [])) (fun t kt => ?_) ?_
    · show Steps p.tables e below (T1.setTop (mkF m 5 #[.val (.ref a0)] [(.int n_w_value_a0)])) t
      refine XS.ifNo X1.here hx rfl (hb hby d3_5) rfl ((if0 _ _).trans (teq hc5).2) ?_
      exact kt
    refine OGo.step (F' := T1.setTop (mkF m 13 #[.val (.ref a0)] [(.int (1 : Int32))])) (fun t kt => ?_) ?_
    · show Steps p.tables e below (T1.setTop (mkF m 8 #[.val (.ref a0)] [])) t
      refine XS.iconst X1.here hx rfl (hb hby d3_8) ?_
      show Steps p.tables e below (T1.setTop (mkF m 9 #[.val (.ref a0)] [(.int (1 : Int32))])) t
      refine XS.goto X1.here hx rfl (pc0 := 9) (pc' := 13) rfl (hb hby d3_9) (by decide) (by decide) ?_
      exact kt
    refine OGo.retZ X1 hx hlk (t := .boolean) (z' := (1 : Int32)) hret (by simp) (hb hby d3_13) rfl ?_ (by decide) (by decide)
    exact ⟨(by rw [f3, if_pos hc5]), N0, e1⟩
  · refine OGo.step (F' := T1.setTop (mkF m 12 #[.val (.ref a0)] [])) (fun t kt => ?_) ?_
    · show Steps p.tables e below (T1.setTop (mkF m 5 #[.val (.ref a0)] [(.int n_w_value_a0)])) t
      refine XS.ifYes X1.here hx rfl (pc0 := 5) (pc' := 12) rfl (hb hby d3_5) rfl ((if0 _ _).trans (feq hc5).2) (by decide) (by decide) ?_
      exact kt
    refine OGo.step (F' := T1.setTop (mkF m 13 #[.val (.ref a0)] [(.int (0 : Int32))])) (fun t kt => ?_) ?_
    · show Steps p.tables e below (T1.setTop (mkF m 12 #[.val (.ref a0)] [])) t
      refine XS.iconst X1.here hx rfl (hb hby d3_12) ?_
      exact kt
    refine OGo.retZ X1 hx hlk (t := .boolean) (z' := (0 : Int32)) hret (by simp) (hb hby d3_13) rfl ?_ (by decide) (by decide)
    exact ⟨(by rw [f3, if_neg hc5]), N0, e1⟩
/-! body 8: jdk/internal/util/Preconditions.checkIndex:(IILjava/util/function/BiFunction;)I -/
theorem d8_0 : decode jdk_41_method_11_code 0 = .ok (.iload_n 0, 1) := by decide +kernel
theorem d8_1 : decode jdk_41_method_11_code 1 = .ok (.ifCond .lt 8, 3) := by decide +kernel
theorem d8_4 : decode jdk_41_method_11_code 4 = .ok (.iload_n 0, 1) := by decide +kernel
theorem d8_5 : decode jdk_41_method_11_code 5 = .ok (.iload_n 1, 1) := by decide +kernel
theorem d8_6 : decode jdk_41_method_11_code 6 = .ok (.if_icmp .lt 10, 3) := by decide +kernel
theorem d8_16 : decode jdk_41_method_11_code 16 = .ok (.iload_n 0, 1) := by decide +kernel
theorem d8_17 : decode jdk_41_method_11_code 17 = .ok (.ireturn, 1) := by decide +kernel
theorem pn_8 : plainName "jdk/internal/util/Preconditions" = true := by first | (simp [plainName, overriddenIn]; done) | decide +kernel
theorem ef_8 (m : MethodId) (x0 : Int32) (x1 : Int32) (x2 : Value) (hc_x2 : x2.category = 1) : entryFrame m #[(.int x0), (.int x1), x2] 3 = mkF m 0 #[.val (.int x0), .val (.int x1), .val x2] [] := by
  cases x2 <;> first | rfl | (simp [Value.category] at *; done)
def f8 (p0 : Int32) : Int32 :=
  p0
set_option maxRecDepth 65536 in
set_option maxHeartbeats 40000000 in
theorem rm8 (l : Launch) (Z : State) (az : Array Value) (hw : ∀ d ∈ tables_1, d.before az Z = true) (ws : List Jvm.Cond) (p0 : Int32) (p1 : Int32) (u2 : Value) (h0 : Heap) (n0 : Nat) (Z0 : n0 ≤ h0.size) (hcat_u2 : u2.category = 1) (hA : ¬ (p0 < (0 : Int32))) (hB : p0 < p1) :
    OCtr l Z (⟨"jdk/internal/util/Preconditions", "checkIndex", "(IILjava/util/function/BiFunction;)I"⟩ : MethodName) jdk_41_method_11_code 3 (some .int) ws ({ frames := 0, cells := 0, slots := 0, locals := 0 } : Room) #[(.int p0), (.int p1), u2] h0 (OPure (some (.int (f8 p0))) h0 n0) := by
  refine OCtr.of (plainFor_of_name pn_8) ?_
  intro p e s m below meth c s₁ X0 hx hlk hZ hown0 hnm hby hml0 hret e0
  have hown : s.vm.findClass "jdk/internal/util/Preconditions" = some m.cls := hown0
  have hml : c.maxLocals = 3 := hml0
  have N0 := Fr.nil n0
  refine OGo.step (fun t k => castTop (ef_8 m p0 p1 u2 hcat_u2) k) ?_
  refine OGo.step (F' := s₁.setTop (mkF m 17 #[.val (.int p0), .val (.int p1), .val u2] [(.int p0)])) (fun t kt => ?_) ?_
  · show Steps p.tables e below (s₁.setTop (mkF m 0 #[.val (.int p0), .val (.int p1), .val u2] [])) t
    refine XS.iloadN X0.here hx rfl (hb hby d8_0) rfl ?_
    show Steps p.tables e below (s₁.setTop (mkF m 1 #[.val (.int p0), .val (.int p1), .val u2] [(.int p0)])) t
    refine XS.ifNo X0.here hx rfl (hb hby d8_1) rfl ((if0 _ _).trans (flt hA).1) ?_
    show Steps p.tables e below (s₁.setTop (mkF m 4 #[.val (.int p0), .val (.int p1), .val u2] [])) t
    refine XS.iloadN X0.here hx rfl (hb hby d8_4) rfl ?_
    show Steps p.tables e below (s₁.setTop (mkF m 5 #[.val (.int p0), .val (.int p1), .val u2] [(.int p0)])) t
    refine XS.iloadN X0.here hx rfl (hb hby d8_5) rfl ?_
    show Steps p.tables e below (s₁.setTop (mkF m 6 #[.val (.int p0), .val (.int p1), .val u2] [(.int p1), (.int p0)])) t
    refine XS.icmpYes X0.here hx rfl (pc0 := 6) (pc' := 16) rfl (hb hby d8_6) rfl (tlt hB).1 (by decide) (by decide) ?_
    show Steps p.tables e below (s₁.setTop (mkF m 16 #[.val (.int p0), .val (.int p1), .val u2] [])) t
    refine XS.iloadN X0.here hx rfl (hb hby d8_16) rfl ?_
    exact kt
  refine OGo.retI X0 hx hlk hret (hb hby d8_17) ?_ (by decide) (by decide)
  exact ⟨(by rw [f8]), N0, e0⟩
/-! body 7: java/lang/String.checkIndex:(II)V -/
theorem d7_0 : decode jdk_42_method_155_code 0 = .ok (.iload_n 0, 1) := by decide +kernel
theorem d7_1 : decode jdk_42_method_155_code 1 = .ok (.iload_n 1, 1) := by decide +kernel
theorem d7_2 : decode jdk_42_method_155_code 2 = .ok (.getstatic 1053, 3) := by decide +kernel
theorem d7_5 : decode jdk_42_method_155_code 5 = .ok (.invokestatic 1059, 3) := by decide +kernel
theorem d7_8 : decode jdk_42_method_155_code 8 = .ok (.pop, 1) := by decide +kernel
theorem d7_9 : decode jdk_42_method_155_code 9 = .ok (.return_, 1) := by decide +kernel
theorem pn_7 : plainName "java/lang/String" = true := by first | (simp [plainName, overriddenIn]; done) | decide +kernel
theorem pd_7_0 : parseMethodDescriptor "(IILjava/util/function/BiFunction;)I" = some ⟨[.int, .int, (.object "java/util/function/BiFunction")], some .int⟩ := by decide +kernel
theorem ef_7 (m : MethodId) (x0 : Int32) (x1 : Int32) : entryFrame m #[(.int x0), (.int x1)] 2 = mkF m 0 #[.val (.int x0), .val (.int x1)] [] := by first | (simp [entryFrame, mkF, argsToLocals, Value.category]; done) | rfl
set_option maxRecDepth 65536 in
set_option maxHeartbeats 40000000 in
theorem rm7 (l : Launch) (Z : State) (az : Array Value) (hw : ∀ d ∈ tables_1, d.before az Z = true) (ws : List Jvm.Cond) (p0 : Int32) (p1 : Int32) (w_SIOOBE_FORMATTER : Value) (h0 : Heap) (n0 : Nat) (Z0 : n0 ≤ h0.size) (hA : ¬ (p0 < (0 : Int32))) (hB : p0 < p1) (hcS : w_SIOOBE_FORMATTER.category = 1) (S_Preconditions_SIOOBE_FORMATTER : Sta Z h0 "jdk/internal/util/Preconditions" "SIOOBE_FORMATTER" "Ljava/util/function/BiFunction;" w_SIOOBE_FORMATTER) :
    OCtr l Z (⟨"java/lang/String", "checkIndex", "(II)V"⟩ : MethodName) jdk_42_method_155_code 2 none ws ({ frames := 1, cells := 0, slots := 0, locals := 14 } : Room) #[(.int p0), (.int p1)] h0 (OPure none h0 n0) := by
  refine OCtr.of (plainFor_of_name pn_7) ?_
  intro p e s m below meth c s₁ X0 hx hlk hZ hown0 hnm hby hml0 hret e0
  have hown : s.vm.findClass "java/lang/String" = some m.cls := hown0
  have hml : c.maxLocals = 2 := hml0
  have N0 := Fr.nil n0
  refine OGo.step (fun t k => castTop (ef_7 m p0 p1) k) ?_
  refine OGo.step (F' := s₁.setTop (mkF m 2 #[.val (.int p0), .val (.int p1)] [(.int p1), (.int p0)])) (fun t kt => ?_) ?_
  · show Steps p.tables e below (s₁.setTop (mkF m 0 #[.val (.int p0), .val (.int p1)] [])) t
    refine XS.iloadN X0.here hx rfl (hb hby d7_0) rfl ?_
    show Steps p.tables e below (s₁.setTop (mkF m 1 #[.val (.int p0), .val (.int p1)] [(.int p0)])) t
    refine XS.iloadN X0.here hx rfl (hb hby d7_1) rfl ?_
    exact kt
  obtain ⟨T1, X1, e1, st1⟩ := getS2 X0 hx hZ hown (host := "") (Or.inl (own_wd hw 49 rfl)) Via.refl e0 S_Preconditions_SIOOBE_FORMATTER (g := (mkF m 2 #[.val (.int p0), .val (.int p1)] [(.int p1), (.int p0)])) rfl (hb hby d7_2)
  refine OGo.step st1 ?_
  show OGo _ _ _ _ _ _ _ (T1.setTop (mkF m 5 #[.val (.int p0), .val (.int p1)] [w_SIOOBE_FORMATTER, (.int p1), (.int p0)]))
  refine OGo.callS X1 hx hZ (y := (⟨"jdk/internal/util/Preconditions", "checkIndex", "(IILjava/util/function/BiFunction;)I"⟩ : MethodName)) hown (own_wd hw 51 rfl) (own_wd hw 52 rfl) (own_wd hw 50 rfl) (own_wd hw 53 rfl) (by decide) (rm8 l Z az hw [] p0 p1 w_SIOOBE_FORMATTER h0 n0 Z0 hcS hA hB) (W := 0) (by decide) (by decide) (g := (mkF m 5 #[.val (.int p0), .val (.int p1)] [w_SIOOBE_FORMATTER, (.int p1), (.int p0)])) rfl (by rw [hml]; rfl) (argsL := [(.int p0), (.int p1), w_SIOOBE_FORMATTER]) (rest := []) (lenOf pd_7_0 rfl) rfl (by show 2 * 0 + _ ≤ _; exact Nat.le_of_eq rfl) (hb hby d7_5) rfl e1 (by decide) (by decide) ?_
  rintro _ T2 L2 X2 ⟨rfl, Nq2, e2⟩
  have N2 := Fr.app N0 Nq2
  show OGo _ _ _ _ _ _ _ (T2.setTop (mkF m 8 #[.val (.int p0), .val (.int p1)] [(.int (f8 p0))]))
  refine OGo.step (F' := T2.setTop (mkF m 9 #[.val (.int p0), .val (.int p1)] [])) (fun t kt => ?_) ?_
  · show Steps p.tables e below (T2.setTop (mkF m 8 #[.val (.int p0), .val (.int p1)] [(.int (f8 p0))])) t
    refine XS.pop X2.here hx rfl (hb hby d7_8) rfl rfl ?_
    exact kt
  refine OGo.retV X2 hx hlk hret (hb hby d7_9) ?_ (by decide) (by decide)
  exact ⟨rfl, N2, e2⟩
/-! body 6: java/lang/StringLatin1.charAt:([BI)C -/
theorem d6_0 : decode jdk_43_method_2_code 0 = .ok (.iload_n 1, 1) := by decide +kernel
theorem d6_1 : decode jdk_43_method_2_code 1 = .ok (.aload_n 0, 1) := by decide +kernel
theorem d6_2 : decode jdk_43_method_2_code 2 = .ok (.arraylength, 1) := by decide +kernel
theorem d6_3 : decode jdk_43_method_2_code 3 = .ok (.invokestatic 9, 3) := by decide +kernel
theorem d6_6 : decode jdk_43_method_2_code 6 = .ok (.aload_n 0, 1) := by decide +kernel
theorem d6_7 : decode jdk_43_method_2_code 7 = .ok (.iload_n 1, 1) := by decide +kernel
theorem d6_8 : decode jdk_43_method_2_code 8 = .ok (.baload, 1) := by decide +kernel
theorem d6_9 : decode jdk_43_method_2_code 9 = .ok (.sipush 255, 3) := by decide +kernel
theorem d6_12 : decode jdk_43_method_2_code 12 = .ok (.iand, 1) := by decide +kernel
theorem d6_13 : decode jdk_43_method_2_code 13 = .ok (.i2c, 1) := by decide +kernel
theorem d6_14 : decode jdk_43_method_2_code 14 = .ok (.ireturn, 1) := by decide +kernel
theorem pn_6 : plainName "java/lang/StringLatin1" = true := by first | (simp [plainName, overriddenIn]; done) | decide +kernel
theorem pd_6_0 : parseMethodDescriptor "(II)V" = some ⟨[.int, .int], none⟩ := by decide +kernel
theorem ef_6 (m : MethodId) (x0 : Addr) (x1 : Int32) : entryFrame m #[(.ref x0), (.int x1)] 2 = mkF m 0 #[.val (.ref x0), .val (.int x1)] [] := by first | (simp [entryFrame, mkF, argsToLocals, Value.category]; done) | rfl
def f6 (ch : Int32) : Int32 :=
  ((ch &&& (255 : Int32)).toUInt32.toUInt16.toUInt32.toInt32)
theorem fb6 (ch : Int32) : nar .char (f6 ch) = (f6 ch) := by
  unfold f6
  repeat' split
  all_goals first | rfl | exact own_narc _
set_option maxRecDepth 65536 in
set_option maxHeartbeats 40000000 in
theorem rm6 (l : Launch) (Z : State) (az : Array Value) (hw : ∀ d ∈ tables_1, d.before az Z = true) (ws : List Jvm.Cond) (a0 : Addr) (p1 : Int32) (ch : Int32) (k_a0 : ClassId) (n_a0 : Int32) (vs_a0 : List Value) (w_SIOOBE_FORMATTER : Value) (h0 : Heap) (n0 : Nat) (Z0 : n0 ≤ h0.size) (hA : ¬ (p1 < (0 : Int32))) (hB : p1 < n_a0) (hcS : w_SIOOBE_FORMATTER.category = 1) (hch : vs_a0.getD p1.toNatClampNeg (.int (0 : Int32)) = .int ch) (V_a0 : Arv Z h0 a0 k_a0 .byte n_a0 vs_a0 (.int (0 : Int32))) (S_Preconditions_SIOOBE_FORMATTER : Sta Z h0 "jdk/internal/util/Preconditions" "SIOOBE_FORMATTER" "Ljava/util/function/BiFunction;" w_SIOOBE_FORMATTER) :
    OCtr l Z (⟨"java/lang/StringLatin1", "charAt", "([BI)C"⟩ : MethodName) jdk_43_method_2_code 2 (some .char) ws ({ frames := 2, cells := 0, slots := 0, locals := 27 } : Room) #[(.ref a0), (.int p1)] h0 (OPure (some (.int (f6 ch))) h0 n0) := by
  refine OCtr.of (plainFor_of_name pn_6) ?_
  intro p e s m below meth c s₁ X0 hx hlk hZ hown0 hnm hby hml0 hret e0
  have hown : s.vm.findClass "java/lang/StringLatin1" = some m.cls := hown0
  have hml : c.maxLocals = 2 := hml0
  have N0 := Fr.nil n0
  refine OGo.step (fun t k => castTop (ef_6 m a0 p1) k) ?_
  refine OGo.step (F' := s₁.setTop (mkF m 2 #[.val (.ref a0), .val (.int p1)] [(.ref a0), (.int p1)])) (fun t kt => ?_) ?_
  · show Steps p.tables e below (s₁.setTop (mkF m 0 #[.val (.ref a0), .val (.int p1)] [])) t
    refine XS.iloadN X0.here hx rfl (hb hby d6_0) rfl ?_
    show Steps p.tables e below (s₁.setTop (mkF m 1 #[.val (.ref a0), .val (.int p1)] [(.int p1)])) t
    refine XS.aloadN X0.here hx rfl (hb hby d6_1) rfl rfl ?_
    exact kt
  obtain ⟨cl1, Ar1, q1, S1, N1a, H1, G1⟩ := id (V_a0)
  refine OGo.step (F' := s₁.setTop (mkF m 3 #[.val (.ref a0), .val (.int p1)] [(.int n_a0), (.int p1)])) (fun t kt => ?_) ?_
  · show Steps p.tables e below (s₁.setTop (mkF m 2 #[.val (.ref a0), .val (.int p1)] [(.ref a0), (.int p1)])) t
    refine X0.arraylength hx (by rw [e0]; exact Ar1.1) (State.isArrayOf_alike hZ.alike Ar1.2.1) (g := (mkF m 2 #[.val (.ref a0), .val (.int p1)] [(.ref a0), (.int p1)])) rfl rfl (hb hby d6_2) _ ?_
    rw [len_of S1 N1a]
    exact kt
  refine OGo.callS X0 hx hZ (y := (⟨"java/lang/String", "checkIndex", "(II)V"⟩ : MethodName)) hown (own_wd hw 46 rfl) (own_wd hw 47 rfl) (own_wd hw 25 rfl) (own_wd hw 48 rfl) (by decide) (rm7 l Z az hw [] p1 n_a0 w_SIOOBE_FORMATTER h0 n0 Z0 hA hB hcS S_Preconditions_SIOOBE_FORMATTER) (W := 0) (by decide) (by decide) (g := (mkF m 3 #[.val (.ref a0), .val (.int p1)] [(.int n_a0), (.int p1)])) rfl (by rw [hml]; rfl) (argsL := [(.int p1), (.int n_a0)]) (rest := []) (lenOf pd_6_0 rfl) rfl (by show 2 * 0 + _ ≤ _; exact Nat.le_of_eq rfl) (hb hby d6_3) rfl e0 (by decide) (by decide) ?_
  rintro _ T2 L2 X2 ⟨rfl, Nq2, e2⟩
  have N2 := Fr.app N0 Nq2
  show OGo _ _ _ _ _ _ _ (T2.setTop (mkF m 6 #[.val (.ref a0), .val (.int p1)] []))
  refine OGo.step (F' := T2.setTop (mkF m 8 #[.val (.ref a0), .val (.int p1)] [(.int p1), (.ref a0)])) (fun t kt => ?_) ?_
  · show Steps p.tables e below (T2.setTop (mkF m 6 #[.val (.ref a0), .val (.int p1)] [])) t
    refine XS.aloadN X2.here hx rfl (hb hby d6_6) rfl rfl ?_
    show Steps p.tables e below (T2.setTop (mkF m 7 #[.val (.ref a0), .val (.int p1)] [(.ref a0)])) t
    refine XS.iloadN X2.here hx rfl (hb hby d6_7) rfl ?_
    exact kt
  obtain ⟨cl3, Ar3, q3, S3, N3a, H3, G3⟩ := id (V_a0)
  have hin3 : ¬ (p1 < 0 ∨ cl3.slots.size ≤ (p1).toNatClampNeg) := inb_of S3 ⟨hA, hB⟩
  have hat3 : cl3.slots[(p1).toNatClampNeg]? = some (.int ch) := H3.at hin3 hch
  refine OGo.step (F' := T2.setTop (mkF m 9 #[.val (.ref a0), .val (.int p1)] [(.int ch)])) (fun t kt => ?_) ?_
  · show Steps p.tables e below (T2.setTop (mkF m 8 #[.val (.ref a0), .val (.int p1)] [(.int p1), (.ref a0)])) t
    refine X2.baloadBytes hx (j := p1) (v := (.int ch)) (by rw [e2]; exact Ar3.1) (State.isArrayOf_alike hZ.alike Ar3.2.1) Ar3.2.2 hin3 hat3 (g := (mkF m 8 #[.val (.ref a0), .val (.int p1)] [(.int p1), (.ref a0)])) rfl rfl (hb hby d6_8) _ ?_
    exact kt
  refine OGo.step (F' := T2.setTop (mkF m 14 #[.val (.ref a0), .val (.int p1)] [(.int ((ch &&& (255 : Int32)).toUInt32.toUInt16.toUInt32.toInt32))])) (fun t kt => ?_) ?_
  · show Steps p.tables e below (T2.setTop (mkF m 9 #[.val (.ref a0), .val (.int p1)] [(.int ch)])) t
    refine XS.sipush X2.here hx rfl (hb hby d6_9) ?_
    show Steps p.tables e below (T2.setTop (mkF m 12 #[.val (.ref a0), .val (.int p1)] [(.int (255 : Int32)), (.int ch)])) t
    refine XS.iand X2.here hx rfl (hb hby d6_12) rfl ?_
    show Steps p.tables e below (T2.setTop (mkF m 13 #[.val (.ref a0), .val (.int p1)] [(.int (ch &&& (255 : Int32)))])) t
    refine XS.i2c X2.here hx rfl (hb hby d6_13) rfl ?_
    exact kt
  refine OGo.retZ X2 hx hlk (t := .char) (z' := ((ch &&& (255 : Int32)).toUInt32.toUInt16.toUInt32.toInt32)) hret (by simp) (hb hby d6_14) (own_narc _) ?_ (by decide) (by decide)
  exact ⟨(by rw [f6]), N2, e2⟩
/-! body 5: java/lang/String.isLatin1:()Z -/
theorem d5_0 : decode jdk_42_method_154_code 0 = .ok (.getstatic 38, 3) := by decide +kernel
theorem d5_3 : decode jdk_42_method_154_code 3 = .ok (.ifCond .eq 14, 3) := by decide +kernel
theorem d5_6 : decode jdk_42_method_154_code 6 = .ok (.aload_n 0, 1) := by decide +kernel
theorem d5_7 : decode jdk_42_method_154_code 7 = .ok (.getfield 15, 3) := by decide +kernel
theorem d5_10 : decode jdk_42_method_154_code 10 = .ok (.ifCond .ne 7, 3) := by decide +kernel
theorem d5_13 : decode jdk_42_method_154_code 13 = .ok (.iconst 1, 1) := by decide +kernel
theorem d5_14 : decode jdk_42_method_154_code 14 = .ok (.goto 4, 3) := by decide +kernel
theorem d5_17 : decode jdk_42_method_154_code 17 = .ok (.iconst 0, 1) := by decide +kernel
theorem d5_18 : decode jdk_42_method_154_code 18 = .ok (.ireturn, 1) := by decide +kernel
theorem pn_5 : plainName "java/lang/String" = true := by first | (simp [plainName, overriddenIn]; done) | decide +kernel
theorem ef_5 (m : MethodId) (x0 : Addr) : entryFrame m #[(.ref x0)] 1 = mkF m 0 #[.val (.ref x0)] [] := by first | (simp [entryFrame, mkF, argsToLocals, Value.category]; done) | rfl
def f5 (w_coder_a0 : Int32) : Int32 :=
  if w_coder_a0 = (0 : Int32) then (1 : Int32)
  else (0 : Int32)
theorem fb5 (w_coder_a0 : Int32) : nar .boolean (f5 w_coder_a0) = (f5 w_coder_a0) := by
  unfold f5
  repeat' split
  all_goals first | rfl | decide
set_option maxRecDepth 65536 in
set_option maxHeartbeats 40000000 in
theorem rm5 (l : Launch) (Z : State) (az : Array Value) (hw : ∀ d ∈ tables_1, d.before az Z = true) (ws : List Jvm.Cond) (a0 : Addr) (w_COMPACT_STRINGS : Int32) (w_coder_a0 : Int32) (h0 : Heap) (n0 : Nat) (Z0 : n0 ≤ h0.size) (hC : ¬ (w_COMPACT_STRINGS = (0 : Int32))) (S_String_COMPACT_STRINGS : Sta Z h0 "java/lang/String" "COMPACT_STRINGS" "Z" (.int w_COMPACT_STRINGS)) (F_coder_a0 : Fld Z h0 a0 "java/lang/String" "coder" "B" (.int w_coder_a0)) :
    OCtr l Z (⟨"java/lang/String", "isLatin1", "()Z"⟩ : MethodName) jdk_42_method_154_code 1 (some .boolean) ws ({ frames := 0, cells := 0, slots := 0, locals := 0 } : Room) #[(.ref a0)] h0 (OPure (some (.int (f5 w_coder_a0))) h0 n0) := by
  refine OCtr.of (plainFor_of_name pn_5) ?_
  intro p e s m below meth c s₁ X0 hx hlk hZ hown0 hnm hby hml0 hret e0
  have hown : s.vm.findClass "java/lang/String" = some m.cls := hown0
  have hml : c.maxLocals = 1 := hml0
  have N0 := Fr.nil n0
  refine OGo.step (fun t k => castTop (ef_5 m a0) k) ?_
  obtain ⟨T1, X1, e1, st1⟩ := getS2 X0 hx hZ hown (host := "") (Or.inl (own_wd hw 39 rfl)) Via.refl e0 S_String_COMPACT_STRINGS (g := (mkF m 0 #[.val (.ref a0)] [])) rfl (hb hby d5_0)
  refine OGo.step st1 ?_
  show OGo _ _ _ _ _ _ _ (T1.setTop (mkF m 3 #[.val (.ref a0)] [(.int w_COMPACT_STRINGS)]))
  refine OGo.step (F' := T1.setTop (mkF m 7 #[.val (.ref a0)] [(.ref a0)])) (fun t kt => ?_) ?_
  · show Steps p.tables e below (T1.setTop (mkF m 3 #[.val (.ref a0)] [(.int w_COMPACT_STRINGS)])) t
    refine XS.ifNo X1.here hx rfl (hb hby d5_3) rfl ((if0 _ _).trans (feq hC).1) ?_
    show Steps p.tables e below (T1.setTop (mkF m 6 #[.val (.ref a0)] [])) t
    refine XS.aloadN X1.here hx rfl (hb hby d5_6) rfl rfl ?_
    exact kt
  obtain ⟨T2, X2, e2, st2⟩ := getF X1 hx hZ hown (host := "") (Or.inl (own_wd hw 40 rfl)) Via.refl e1 F_coder_a0 (g := (mkF m 7 #[.val (.ref a0)] [(.ref a0)])) rfl rfl (hb hby d5_7)
  refine OGo.step st2 ?_
  show OGo _ _ _ _ _ _ _ (T2.setTop (mkF m 10 #[.val (.ref a0)] [(.int w_coder_a0)]))
  by_cases hc10 : w_coder_a0 = (0 : Int32)
  · refine OGo.step (F' := T2.setTop (mkF m 13 #[.val (.ref a0)] [])) (fun t kt => ?_) ?_
    · show Steps p.tables e below (T2.setTop (mkF m 10 #[.val (.ref a0)] [(.int w_coder_a0)])) t
      refine XS.ifNo X2.here hx rfl (hb hby d5_10) rfl ((if0 _ _).trans (teq hc10).2) ?_
      exact kt
    refine OGo.step (F' := T2.setTop (mkF m 18 #[.val (.ref a0)] [(.int (1 : Int32))])) (fun t kt => ?_) ?_
    · show Steps p.tables e below (T2.setTop (mkF m 13 #[.val (.ref a0)] [])) t
      refine XS.iconst X2.here hx rfl (hb hby d5_13) ?_
      show Steps p.tables e below (T2.setTop (mkF m 14 #[.val (.ref a0)] [(.int (1 : Int32))])) t
      refine XS.goto X2.here hx rfl (pc0 := 14) (pc' := 18) rfl (hb hby d5_14) (by decide) (by decide) ?_
      exact kt
    refine OGo.retZ X2 hx hlk (t := .boolean) (z' := (1 : Int32)) hret (by simp) (hb hby d5_18) rfl ?_ (by decide) (by decide)
    exact ⟨(by rw [f5, if_pos hc10]), N0, e2⟩
  · refine OGo.step (F' := T2.setTop (mkF m 17 #[.val (.ref a0)] [])) (fun t kt => ?_) ?_
    · show Steps p.tables e below (T2.setTop (mkF m 10 #[.val (.ref a0)] [(.int w_coder_a0)])) t
      refine XS.ifYes X2.here hx rfl (pc0 := 10) (pc' := 17) rfl (hb hby d5_10) rfl ((if0 _ _).trans (feq hc10).2) (by decide) (by decide) ?_
      exact kt
    refine OGo.step (F' := T2.setTop (mkF m 18 #[.val (.ref a0)] [(.int (0 : Int32))])) (fun t kt => ?_) ?_
    · show Steps p.tables e below (T2.setTop (mkF m 17 #[.val (.ref a0)] [])) t
      refine XS.iconst X2.here hx rfl (hb hby d5_17) ?_
      exact kt
    refine OGo.retZ X2 hx hlk (t := .boolean) (z' := (0 : Int32)) hret (by simp) (hb hby d5_18) rfl ?_ (by decide) (by decide)
    exact ⟨(by rw [f5, if_neg hc10]), N0, e2⟩
/-! body 4: java/lang/String.charAt:(I)C -/
theorem d4_0 : decode jdk_42_method_56_code 0 = .ok (.aload_n 0, 1) := by decide +kernel
theorem d4_1 : decode jdk_42_method_56_code 1 = .ok (.invokevirtual 492, 3) := by decide +kernel
theorem d4_4 : decode jdk_42_method_56_code 4 = .ok (.ifCond .eq 12, 3) := by decide +kernel
theorem d4_7 : decode jdk_42_method_56_code 7 = .ok (.aload_n 0, 1) := by decide +kernel
theorem d4_8 : decode jdk_42_method_56_code 8 = .ok (.getfield 9, 3) := by decide +kernel
theorem d4_11 : decode jdk_42_method_56_code 11 = .ok (.iload_n 1, 1) := by decide +kernel
theorem d4_12 : decode jdk_42_method_56_code 12 = .ok (.invokestatic 495, 3) := by decide +kernel
theorem d4_15 : decode jdk_42_method_56_code 15 = .ok (.ireturn, 1) := by decide +kernel
theorem pn_4 : plainName "java/lang/String" = true := by first | (simp [plainName, overriddenIn]; done) | decide +kernel
theorem pd_4_0 : parseMethodDescriptor "()Z" = some ⟨[], some .boolean⟩ := by decide +kernel
theorem pd_4_1 : parseMethodDescriptor "([BI)C" = some ⟨[(.array .byte), .int], some .char⟩ := by decide +kernel
theorem ef_4 (m : MethodId) (x0 : Addr) (x1 : Int32) : entryFrame m #[(.ref x0), (.int x1)] 2 = mkF m 0 #[.val (.ref x0), .val (.int x1)] [] := by first | (simp [entryFrame, mkF, argsToLocals, Value.category]; done) | rfl
def f4 (ch : Int32) : Int32 :=
  (f6 ch)
set_option maxRecDepth 65536 in
set_option maxHeartbeats 40000000 in
theorem rm4 (l : Launch) (Z : State) (az : Array Value) (hw : ∀ d ∈ tables_1, d.before az Z = true) (ws : List Jvm.Cond) (a0 : Addr) (p1 : Int32) (ch : Int32) (w_COMPACT_STRINGS : Int32) (w_value_a0 : Addr) (k_w_value_a0 : ClassId) (n_w_value_a0 : Int32) (vs_w_value_a0 : List Value) (w_SIOOBE_FORMATTER : Value) (h0 : Heap) (n0 : Nat) (Z0 : n0 ≤ h0.size) (hC : ¬ (w_COMPACT_STRINGS = (0 : Int32))) (F_coder_a0 : Fld Z h0 a0 "java/lang/String" "coder" "B" (.int (0 : Int32))) (hA : ¬ (p1 < (0 : Int32))) (hB : p1 < n_w_value_a0) (hcS : w_SIOOBE_FORMATTER.category = 1) (hch : vs_w_value_a0.getD p1.toNatClampNeg (.int (0 : Int32)) = .int ch) (S_String_COMPACT_STRINGS : Sta Z h0 "java/lang/String" "COMPACT_STRINGS" "Z" (.int w_COMPACT_STRINGS)) (E_a0 : Exa Z h0 a0 "java/lang/String") (F_value_a0 : Fld Z h0 a0 "java/lang/String" "value" "[B" (.ref w_value_a0)) (V_w_value_a0 : Arv Z h0 w_value_a0 k_w_value_a0 .byte n_w_value_a0 vs_w_value_a0 (.int (0 : Int32))) (S_Preconditions_SIOOBE_FORMATTER : Sta Z h0 "jdk/internal/util/Preconditions" "SIOOBE_FORMATTER" "Ljava/util/function/BiFunction;" w_SIOOBE_FORMATTER) :
    OCtr l Z (⟨"java/lang/String", "charAt", "(I)C"⟩ : MethodName) jdk_42_method_56_code 2 (some .char) ws ({ frames := 3, cells := 0, slots := 0, locals := 40 } : Room) #[(.ref a0), (.int p1)] h0 (OPure (some (.int (f4 ch))) h0 n0) := by
  refine OCtr.of (plainFor_of_name pn_4) ?_
  intro p e s m below meth c s₁ X0 hx hlk hZ hown0 hnm hby hml0 hret e0
  have hown : s.vm.findClass "java/lang/String" = some m.cls := hown0
  have hml : c.maxLocals = 2 := hml0
  have N0 := Fr.nil n0
  refine OGo.step (fun t k => castTop (ef_4 m a0 p1) k) ?_
  refine OGo.step (F' := s₁.setTop (mkF m 1 #[.val (.ref a0), .val (.int p1)] [(.ref a0)])) (fun t kt => ?_) ?_
  · show Steps p.tables e below (s₁.setTop (mkF m 0 #[.val (.ref a0), .val (.int p1)] [])) t
    refine XS.aloadN X0.here hx rfl (hb hby d4_0) rfl rfl ?_
    exact kt
  refine OGo.callV X0 hx hZ (y := (⟨"java/lang/String", "isLatin1", "()Z"⟩ : MethodName)) (z := (⟨"java/lang/String", "isLatin1", "()Z"⟩ : MethodName)) hown (own_wd hw 34 rfl) (own_wd hw 35 rfl) (notFace_of_selects (args := #[]) (mvT hZ (own_wd hw 37 rfl))) (own_wd hw 37 rfl) (own_wd hw 36 rfl) (own_wd hw 25 rfl) (own_wd hw 38 rfl) (by decide) (rm5 l Z az hw [] a0 w_COMPACT_STRINGS (0 : Int32) h0 n0 Z0 hC S_String_COMPACT_STRINGS F_coder_a0) (W := 0) (by decide) (by decide) E_a0 (g := (mkF m 1 #[.val (.ref a0), .val (.int p1)] [(.ref a0)])) rfl (by rw [hml]; rfl) (argsL := []) (rest := []) (lenOf pd_4_0 rfl) rfl (by show 2 * 0 + _ ≤ _; exact Nat.le_of_eq rfl) (hb hby d4_1) rfl e0 (by decide) (by decide) ?_
  rintro _ T1 L1 X1 ⟨hv1, Nq1, e1⟩
  have N1 := Fr.app N0 Nq1
  rw [show f5 (0 : Int32) = (1 : Int32) from by decide] at hv1
  subst hv1
  show OGo _ _ _ _ _ _ _ (T1.setTop (mkF m 4 #[.val (.ref a0), .val (.int p1)] [(.int (1 : Int32))]))
  refine OGo.step (F' := T1.setTop (mkF m 8 #[.val (.ref a0), .val (.int p1)] [(.ref a0)])) (fun t kt => ?_) ?_
  · show Steps p.tables e below (T1.setTop (mkF m 4 #[.val (.ref a0), .val (.int p1)] [(.int (1 : Int32))])) t
    refine XS.ifNo X1.here hx rfl (hb hby d4_4) rfl ((if0 _ _).trans (feq (by decide : ¬ ((1 : Int32) = (0 : Int32)))).1) ?_
    show Steps p.tables e below (T1.setTop (mkF m 7 #[.val (.ref a0), .val (.int p1)] [])) t
    refine XS.aloadN X1.here hx rfl (hb hby d4_7) rfl rfl ?_
    exact kt
  obtain ⟨T2, X2, e2, st2⟩ := getF X1 hx hZ hown (host := "") (Or.inl (own_wd hw 27 rfl)) Via.refl e1 F_value_a0 (g := (mkF m 8 #[.val (.ref a0), .val (.int p1)] [(.ref a0)])) rfl rfl (hb hby d4_8)
  refine OGo.step st2 ?_
  show OGo _ _ _ _ _ _ _ (T2.setTop (mkF m 11 #[.val (.ref a0), .val (.int p1)] [(.ref w_value_a0)]))
  refine OGo.step (F' := T2.setTop (mkF m 12 #[.val (.ref a0), .val (.int p1)] [(.int p1), (.ref w_value_a0)])) (fun t kt => ?_) ?_
  · show Steps p.tables e below (T2.setTop (mkF m 11 #[.val (.ref a0), .val (.int p1)] [(.ref w_value_a0)])) t
    refine XS.iloadN X2.here hx rfl (hb hby d4_11) rfl ?_
    exact kt
  refine OGo.callS X2 hx hZ (y := (⟨"java/lang/StringLatin1", "charAt", "([BI)C"⟩ : MethodName)) hown (own_wd hw 42 rfl) (own_wd hw 43 rfl) (own_wd hw 44 rfl) (own_wd hw 45 rfl) (by decide) (rm6 l Z az hw [] w_value_a0 p1 ch k_w_value_a0 n_w_value_a0 vs_w_value_a0 w_SIOOBE_FORMATTER h0 n0 Z0 hA hB hcS hch V_w_value_a0 S_Preconditions_SIOOBE_FORMATTER) (W := 0) (by decide) (by decide) (g := (mkF m 12 #[.val (.ref a0), .val (.int p1)] [(.int p1), (.ref w_value_a0)])) rfl (by rw [hml]; rfl) (argsL := [(.ref w_value_a0), (.int p1)]) (rest := []) (lenOf pd_4_1 rfl) rfl (by show 2 * 0 + _ ≤ _; exact Nat.le_of_eq rfl) (hb hby d4_12) rfl e2 (by decide) (by decide) ?_
  rintro _ T3 L3 X3 ⟨rfl, Nq3, e3⟩
  have N3 := Fr.app N1 Nq3
  show OGo _ _ _ _ _ _ _ (T3.setTop (mkF m 15 #[.val (.ref a0), .val (.int p1)] [(.int (f6 ch))]))
  refine OGo.retZ X3 hx hlk (t := .char) (z' := (f6 ch)) hret (by simp) (hb hby d4_15) (fb6 ch) ?_ (by decide) (by decide)
  exact ⟨(by rw [f4]), N3, e3⟩
/-! body 9: com/example/trigrid/trigrid/Mark.symbol:()C -/
theorem d9_0 : decode prog_7_method_4_code 0 = .ok (.aload_n 0, 1) := by decide +kernel
theorem d9_1 : decode prog_7_method_4_code 1 = .ok (.getfield 29, 3) := by decide +kernel
theorem d9_4 : decode prog_7_method_4_code 4 = .ok (.ireturn, 1) := by decide +kernel
theorem pn_9 : plainName "com/example/trigrid/trigrid/Mark" = true := by first | (simp [plainName, overriddenIn]; done) | decide +kernel
theorem ef_9 (m : MethodId) (x0 : Addr) : entryFrame m #[(.ref x0)] 1 = mkF m 0 #[.val (.ref x0)] [] := by first | (simp [entryFrame, mkF, argsToLocals, Value.category]; done) | rfl
def f9 (w_symbol_a0 : Int32) : Int32 :=
  (nar .char w_symbol_a0)
set_option maxRecDepth 65536 in
set_option maxHeartbeats 40000000 in
theorem rm9 (l : Launch) (Z : State) (az : Array Value) (hw : ∀ d ∈ tables_1, d.before az Z = true) (ws : List Jvm.Cond) (a0 : Addr) (w_symbol_a0 : Int32) (h0 : Heap) (n0 : Nat) (Z0 : n0 ≤ h0.size) (F_symbol_a0 : Fld Z h0 a0 "com/example/trigrid/trigrid/Mark" "symbol" "C" (.int w_symbol_a0)) :
    OCtr l Z (⟨"com/example/trigrid/trigrid/Mark", "symbol", "()C"⟩ : MethodName) prog_7_method_4_code 1 (some .char) ws ({ frames := 0, cells := 0, slots := 0, locals := 0 } : Room) #[(.ref a0)] h0 (OPure (some (.int (f9 w_symbol_a0))) h0 n0) := by
  refine OCtr.of (plainFor_of_name pn_9) ?_
  intro p e s m below meth c s₁ X0 hx hlk hZ hown0 hnm hby hml0 hret e0
  have hown : s.vm.findClass "com/example/trigrid/trigrid/Mark" = some m.cls := hown0
  have hml : c.maxLocals = 1 := hml0
  have N0 := Fr.nil n0
  refine OGo.step (fun t k => castTop (ef_9 m a0) k) ?_
  refine OGo.step (F' := s₁.setTop (mkF m 1 #[.val (.ref a0)] [(.ref a0)])) (fun t kt => ?_) ?_
  · show Steps p.tables e below (s₁.setTop (mkF m 0 #[.val (.ref a0)] [])) t
    refine XS.aloadN X0.here hx rfl (hb hby d9_0) rfl rfl ?_
    exact kt
  obtain ⟨T1, X1, e1, st1⟩ := getF X0 hx hZ hown (host := "") (Or.inl (own_wd hw 59 rfl)) Via.refl e0 F_symbol_a0 (g := (mkF m 1 #[.val (.ref a0)] [(.ref a0)])) rfl rfl (hb hby d9_1)
  refine OGo.step st1 ?_
  show OGo _ _ _ _ _ _ _ (T1.setTop (mkF m 4 #[.val (.ref a0)] [(.int w_symbol_a0)]))
  refine OGo.retZ X1 hx hlk (t := .char) (z' := (nar .char w_symbol_a0)) hret (by simp) (hb hby d9_4) rfl ?_ (by decide) (by decide)
  exact ⟨(by rw [f9]), N0, e1⟩
/-! body 10: com/example/trigrid/trigrid/Mark.opponent:()Lcom/example/trigrid/trigrid/Mark; -/
theorem d10_0 : decode prog_7_method_5_code 0 = .ok (.aload_n 0, 1) := by decide +kernel
theorem d10_1 : decode prog_7_method_5_code 1 = .ok (.getstatic 3, 3) := by decide +kernel
theorem d10_4 : decode prog_7_method_5_code 4 = .ok (.if_acmp .ne 9, 3) := by decide +kernel
theorem d10_7 : decode prog_7_method_5_code 7 = .ok (.getstatic 7, 3) := by decide +kernel
theorem d10_10 : decode prog_7_method_5_code 10 = .ok (.goto 6, 3) := by decide +kernel
theorem d10_13 : decode prog_7_method_5_code 13 = .ok (.getstatic 3, 3) := by decide +kernel
theorem d10_16 : decode prog_7_method_5_code 16 = .ok (.areturn, 1) := by decide +kernel
theorem pn_10 : plainName "com/example/trigrid/trigrid/Mark" = true := by first | (simp [plainName, overriddenIn]; done) | decide +kernel
theorem ef_10 (m : MethodId) (x0 : Addr) : entryFrame m #[(.ref x0)] 1 = mkF m 0 #[.val (.ref x0)] [] := by first | (simp [entryFrame, mkF, argsToLocals, Value.category]; done) | rfl
def f10 (a0 : Addr) (w_X : Addr) (w_O : Addr) : Addr :=
  if a0 = w_X then w_O
  else w_X
set_option maxRecDepth 65536 in
set_option maxHeartbeats 40000000 in
theorem rm10 (l : Launch) (Z : State) (az : Array Value) (hw : ∀ d ∈ tables_1, d.before az Z = true) (ws : List Jvm.Cond) (a0 : Addr) (w_X : Addr) (w_O : Addr) (h0 : Heap) (n0 : Nat) (Z0 : n0 ≤ h0.size) (S_Mark_X : Sta Z h0 "com/example/trigrid/trigrid/Mark" "X" "Lcom/example/trigrid/trigrid/Mark;" (.ref w_X)) (S_Mark_O : Sta Z h0 "com/example/trigrid/trigrid/Mark" "O" "Lcom/example/trigrid/trigrid/Mark;" (.ref w_O)) :
    OCtr l Z (⟨"com/example/trigrid/trigrid/Mark", "opponent", "()Lcom/example/trigrid/trigrid/Mark;"⟩ : MethodName) prog_7_method_5_code 1 (some (.object "com/example/trigrid/trigrid/Mark")) ws ({ frames := 0, cells := 0, slots := 0, locals := 0 } : Room) #[(.ref a0)] h0 (OPure (some (.ref (f10 a0 w_X w_O))) h0 n0) := by
  refine OCtr.of (plainFor_of_name pn_10) ?_
  intro p e s m below meth c s₁ X0 hx hlk hZ hown0 hnm hby hml0 hret e0
  have hown : s.vm.findClass "com/example/trigrid/trigrid/Mark" = some m.cls := hown0
  have hml : c.maxLocals = 1 := hml0
  have N0 := Fr.nil n0
  refine OGo.step (fun t k => castTop (ef_10 m a0) k) ?_
  refine OGo.step (F' := s₁.setTop (mkF m 1 #[.val (.ref a0)] [(.ref a0)])) (fun t kt => ?_) ?_
  · show Steps p.tables e below (s₁.setTop (mkF m 0 #[.val (.ref a0)] [])) t
    refine XS.aloadN X0.here hx rfl (hb hby d10_0) rfl rfl ?_
    exact kt
  obtain ⟨T1, X1, e1, st1⟩ := getS2 X0 hx hZ hown (host := "") (Or.inl (own_wd hw 66 rfl)) Via.refl e0 S_Mark_X (g := (mkF m 1 #[.val (.ref a0)] [(.ref a0)])) rfl (hb hby d10_1)
  refine OGo.step st1 ?_
  show OGo _ _ _ _ _ _ _ (T1.setTop (mkF m 4 #[.val (.ref a0)] [(.ref w_X), (.ref a0)]))
  by_cases hc4 : a0 = w_X
  · refine OGo.step (F' := T1.setTop (mkF m 7 #[.val (.ref a0)] [])) (fun t kt => ?_) ?_
    · show Steps p.tables e below (T1.setTop (mkF m 4 #[.val (.ref a0)] [(.ref w_X), (.ref a0)])) t
      refine Jvm.RoadKit.acmp (g := (mkF m 4 #[.val (.ref a0)] [(.ref w_X), (.ref a0)])) X1 hx rfl rfl rfl (pc0 := 4) (pc' := 7) (same := true) rfl (hb hby d10_4) rfl (decide_eq_true (congrArg Value.ref hc4)) (by decide) (by decide) ?_
      exact kt
    obtain ⟨T2, X2, e2, st2⟩ := getS2 X1 hx hZ hown (host := "") (Or.inl (own_wd hw 71 rfl)) Via.refl e1 S_Mark_O (g := (mkF m 7 #[.val (.ref a0)] [])) rfl (hb hby d10_7)
    refine OGo.step st2 ?_
    show OGo _ _ _ _ _ _ _ (T2.setTop (mkF m 10 #[.val (.ref a0)] [(.ref w_O)]))
    refine OGo.step (F' := T2.setTop (mkF m 16 #[.val (.ref a0)] [(.ref w_O)])) (fun t kt => ?_) ?_
    · show Steps p.tables e below (T2.setTop (mkF m 10 #[.val (.ref a0)] [(.ref w_O)])) t
      refine XS.goto X2.here hx rfl (pc0 := 10) (pc' := 16) rfl (hb hby d10_10) (by decide) (by decide) ?_
      exact kt
    refine OGo.retA X2 hx hlk (t := (.object "com/example/trigrid/trigrid/Mark")) hret rfl rfl rfl (hb hby d10_16) ?_ (by decide) (by decide)
    exact ⟨(by rw [f10, if_pos hc4]), N0, e2⟩
  · refine OGo.step (F' := T1.setTop (mkF m 13 #[.val (.ref a0)] [])) (fun t kt => ?_) ?_
    · show Steps p.tables e below (T1.setTop (mkF m 4 #[.val (.ref a0)] [(.ref w_X), (.ref a0)])) t
      refine Jvm.RoadKit.acmp (g := (mkF m 4 #[.val (.ref a0)] [(.ref w_X), (.ref a0)])) X1 hx rfl rfl rfl (pc0 := 4) (pc' := 13) (same := false) rfl (hb hby d10_4) rfl (decide_eq_false fun q => hc4 (Value.ref.inj q)) (by decide) (by decide) ?_
      exact kt
    obtain ⟨T3, X3, e3, st3⟩ := getS2 X1 hx hZ hown (host := "") (Or.inl (own_wd hw 66 rfl)) Via.refl e1 S_Mark_X (g := (mkF m 13 #[.val (.ref a0)] [])) rfl (hb hby d10_13)
    refine OGo.step st3 ?_
    show OGo _ _ _ _ _ _ _ (T3.setTop (mkF m 16 #[.val (.ref a0)] [(.ref w_X)]))
    refine OGo.retA X3 hx hlk (t := (.object "com/example/trigrid/trigrid/Mark")) hret rfl rfl rfl (hb hby d10_16) ?_ (by decide) (by decide)
    exact ⟨(by rw [f10, if_neg hc4]), N0, e3⟩
/-! body 0: com/example/trigrid/trigrid/ValueWinForPinLaw.law:(I)Z -/
theorem pn_0 : plainName "com/example/trigrid/trigrid/ValueWinForPinLaw" = true := by first | (simp [plainName, overriddenIn]; done) | decide +kernel
theorem pd_0_0 : parseMethodDescriptor "(Lcom/example/trigrid/trigrid/Mark;)Lcom/example/trigrid/trigrid/Value;" = some ⟨[(.object "com/example/trigrid/trigrid/Mark")], some (.object "com/example/trigrid/trigrid/Value")⟩ := by decide +kernel
theorem pd_0_1 : parseMethodDescriptor "()Ljava/lang/String;" = some ⟨[], some (.object "java/lang/String")⟩ := by decide +kernel
theorem pd_0_2 : parseMethodDescriptor "()Z" = some ⟨[], some .boolean⟩ := by decide +kernel
theorem pd_0_3 : parseMethodDescriptor "(I)C" = some ⟨[.int], some .char⟩ := by decide +kernel
theorem pd_0_4 : parseMethodDescriptor "()C" = some ⟨[], some .char⟩ := by decide +kernel
theorem pd_0_5 : parseMethodDescriptor "()Lcom/example/trigrid/trigrid/Mark;" = some ⟨[], some (.object "com/example/trigrid/trigrid/Mark")⟩ := by decide +kernel
theorem ef_0 (m : MethodId) (x0 : Int32) : entryFrame m #[(.int x0)] maxLocals = mkF m 0 #[.val (.int x0), .unset, .unset, .unset, .unset, .unset, .unset] [] := by first | (simp [entryFrame, mkF, argsToLocals, Value.category, maxLocals]; done) | rfl
def f0 (p0 : Int32) : Int32 :=
  if (p0 &&& (1 : Int32)) = (0 : Int32) then (1 : Int32)
  else (1 : Int32)
theorem fb0 (p0 : Int32) : nar .boolean (f0 p0) = (f0 p0) := by
  unfold f0
  repeat' split
  all_goals first | rfl | decide
set_option maxRecDepth 65536 in
set_option maxHeartbeats 40000000 in
theorem rm0 (l : Launch) (Z : State) (az : Array Value) (hw : ∀ d ∈ tables_1, d.before az Z = true) (ws : List Jvm.Cond) (p0 : Int32) (w_X : Addr) (w_O : Addr) (w_X_WINS : Addr) (w_O_WINS : Addr) (w_DRAW : Addr) (w_lx : Addr) (w_lo : Addr) (w_vx : Addr) (w_vo : Addr) (k_x : ClassId) (k_o : ClassId) (w_SIOOBE_FORMATTER : Value) (w_COMPACT_STRINGS : Int32) (h0 : Heap) (n0 : Nat) (Z0 : n0 ≤ h0.size) (F_label_w_X_WINS : Fld Z h0 w_X_WINS "com/example/trigrid/trigrid/Value" "label" "Ljava/lang/String;" (.ref w_lx)) (E_w_lx : Exa Z h0 w_lx "java/lang/String") (F_value_w_lx : Fld Z h0 w_lx "java/lang/String" "value" "[B" (.ref w_vx)) (F_coder_w_lx : Fld Z h0 w_lx "java/lang/String" "coder" "B" (.int (0 : Int32))) (V_w_vx : Arv Z h0 w_vx k_x .byte (6 : Int32) [(.int (120 : Int32)), (.int (45 : Int32)), (.int (119 : Int32)), (.int (105 : Int32)), (.int (110 : Int32)), (.int (115 : Int32))] (.int (0 : Int32))) (F_symbol_w_X : Fld Z h0 w_X "com/example/trigrid/trigrid/Mark" "symbol" "C" (.int (120 : Int32))) (F_label_w_O_WINS : Fld Z h0 w_O_WINS "com/example/trigrid/trigrid/Value" "label" "Ljava/lang/String;" (.ref w_lo)) (E_w_lo : Exa Z h0 w_lo "java/lang/String") (F_value_w_lo : Fld Z h0 w_lo "java/lang/String" "value" "[B" (.ref w_vo)) (F_coder_w_lo : Fld Z h0 w_lo "java/lang/String" "coder" "B" (.int (0 : Int32))) (V_w_vo : Arv Z h0 w_vo k_o .byte (6 : Int32) [(.int (111 : Int32)), (.int (45 : Int32)), (.int (119 : Int32)), (.int (105 : Int32)), (.int (110 : Int32)), (.int (115 : Int32))] (.int (0 : Int32))) (F_symbol_w_O : Fld Z h0 w_O "com/example/trigrid/trigrid/Mark" "symbol" "C" (.int (111 : Int32))) (neOX : w_O ≠ w_X) (neXD : w_X_WINS ≠ w_DRAW) (neOD : w_O_WINS ≠ w_DRAW) (neW : w_X_WINS ≠ w_O_WINS) (hcS : w_SIOOBE_FORMATTER.category = 1) (hC : ¬ (w_COMPACT_STRINGS = (0 : Int32))) (S_Mark_O : Sta Z h0 "com/example/trigrid/trigrid/Mark" "O" "Lcom/example/trigrid/trigrid/Mark;" (.ref w_O)) (S_Value_O_WINS : Sta Z h0 "com/example/trigrid/trigrid/Value" "O_WINS" "Lcom/example/trigrid/trigrid/Value;" (.ref w_O_WINS)) (S_Mark_X : Sta Z h0 "com/example/trigrid/trigrid/Mark" "X" "Lcom/example/trigrid/trigrid/Mark;" (.ref w_X)) (S_Value_X_WINS : Sta Z h0 "com/example/trigrid/trigrid/Value" "X_WINS" "Lcom/example/trigrid/trigrid/Value;" (.ref w_X_WINS)) (S_Value_DRAW : Sta Z h0 "com/example/trigrid/trigrid/Value" "DRAW" "Lcom/example/trigrid/trigrid/Value;" (.ref w_DRAW)) (E_w_O_WINS : Exa Z h0 w_O_WINS "com/example/trigrid/trigrid/Value") (S_String_COMPACT_STRINGS : Sta Z h0 "java/lang/String" "COMPACT_STRINGS" "Z" (.int w_COMPACT_STRINGS)) (S_Preconditions_SIOOBE_FORMATTER : Sta Z h0 "jdk/internal/util/Preconditions" "SIOOBE_FORMATTER" "Ljava/util/function/BiFunction;" w_SIOOBE_FORMATTER) (E_w_O : Exa Z h0 w_O "com/example/trigrid/trigrid/Mark") (E_w_X_WINS : Exa Z h0 w_X_WINS "com/example/trigrid/trigrid/Value") (E_w_X : Exa Z h0 w_X "com/example/trigrid/trigrid/Mark") :
    OCtr l Z x code maxLocals ret ws room_1 #[(.int p0)] h0 (OPure (some (.int (f0 p0))) h0 n0) := by
  refine OCtr.of (plainFor_of_name pn_0) ?_
  intro p e s m below meth c s₁ X0 hx hlk hZ hown0 hnm hby hml0 hret e0
  have hown : s.vm.findClass "com/example/trigrid/trigrid/ValueWinForPinLaw" = some m.cls := hown0
  have hml : c.maxLocals = 7 := hml0
  have N0 := Fr.nil n0
  refine OGo.step (fun t k => castTop (ef_0 m p0) k) ?_
  refine OGo.step (F' := s₁.setTop (mkF m 3 #[.val (.int p0), .unset, .unset, .unset, .unset, .unset, .unset] [(.int (p0 &&& (1 : Int32)))])) (fun t kt => ?_) ?_
  · show Steps p.tables e below (s₁.setTop (mkF m 0 #[.val (.int p0), .unset, .unset, .unset, .unset, .unset, .unset] [])) t
    refine XS.iloadN X0.here hx rfl (hb hby at_0) rfl ?_
    show Steps p.tables e below (s₁.setTop (mkF m 1 #[.val (.int p0), .unset, .unset, .unset, .unset, .unset, .unset] [(.int p0)])) t
    refine XS.iconst X0.here hx rfl (hb hby at_1) ?_
    show Steps p.tables e below (s₁.setTop (mkF m 2 #[.val (.int p0), .unset, .unset, .unset, .unset, .unset, .unset] [(.int (1 : Int32)), (.int p0)])) t
    refine XS.iand X0.here hx rfl (hb hby at_2) rfl ?_
    exact kt
  by_cases hc3 : (p0 &&& (1 : Int32)) = (0 : Int32)
  · refine OGo.step (F' := s₁.setTop (mkF m 10 #[.val (.int p0), .unset, .unset, .unset, .unset, .unset, .unset] [])) (fun t kt => ?_) ?_
    · show Steps p.tables e below (s₁.setTop (mkF m 3 #[.val (.int p0), .unset, .unset, .unset, .unset, .unset, .unset] [(.int (p0 &&& (1 : Int32)))])) t
      refine XS.ifYes X0.here hx rfl (pc0 := 3) (pc' := 10) rfl (hb hby at_3) rfl ((if0 _ _).trans (teq hc3).1) (by decide) (by decide) ?_
      exact kt
    refine OGo.step (F' := s₁.setTop (mkF m 22 #[.val (.int p0), .val (.int (0 : Int32)), .unset, .unset, .unset, .unset, .unset] [])) (fun t kt => ?_) ?_
    · show Steps p.tables e below (s₁.setTop (mkF m 10 #[.val (.int p0), .unset, .unset, .unset, .unset, .unset, .unset] [])) t
      refine XS.iconst X0.here hx rfl (hb hby at_10) ?_
      show Steps p.tables e below (s₁.setTop (mkF m 11 #[.val (.int p0), .unset, .unset, .unset, .unset, .unset, .unset] [(.int (0 : Int32))])) t
      refine XS.istoreN X0.here hx rfl (hb hby at_11) rfl (l' := #[.val (.int p0), .val (.int (0 : Int32)), .unset, .unset, .unset, .unset, .unset]) rfl ?_
      show Steps p.tables e below (s₁.setTop (mkF m 12 #[.val (.int p0), .val (.int (0 : Int32)), .unset, .unset, .unset, .unset, .unset] [])) t
      refine XS.iloadN X0.here hx rfl (hb hby at_12) rfl ?_
      show Steps p.tables e below (s₁.setTop (mkF m 13 #[.val (.int p0), .val (.int (0 : Int32)), .unset, .unset, .unset, .unset, .unset] [(.int (0 : Int32))])) t
      refine XS.ifYes X0.here hx rfl (pc0 := 13) (pc' := 22) rfl (hb hby at_13) rfl ((if0 _ _).trans (teq (by decide : (0 : Int32) = (0 : Int32))).1) (by decide) (by decide) ?_
      exact kt
    obtain ⟨T1, X1, e1, st1⟩ := getS2 X0 hx hZ hown (host := "") (Or.inl (own_wd hw 0 rfl)) Via.refl e0 S_Mark_O (g := (mkF m 22 #[.val (.int p0), .val (.int (0 : Int32)), .unset, .unset, .unset, .unset, .unset] [])) rfl (hb hby at_22)
    refine OGo.step st1 ?_
    show OGo _ _ _ _ _ _ _ (T1.setTop (mkF m 25 #[.val (.int p0), .val (.int (0 : Int32)), .unset, .unset, .unset, .unset, .unset] [(.ref w_O)]))
    refine OGo.step (F' := T1.setTop (mkF m 36 #[.val (.int p0), .val (.int (0 : Int32)), .val (.ref w_O), .unset, .unset, .unset, .unset] [])) (fun t kt => ?_) ?_
    · show Steps p.tables e below (T1.setTop (mkF m 25 #[.val (.int p0), .val (.int (0 : Int32)), .unset, .unset, .unset, .unset, .unset] [(.ref w_O)])) t
      refine XS.astoreN X1.here hx rfl (hb hby at_25) rfl rfl (l' := #[.val (.int p0), .val (.int (0 : Int32)), .val (.ref w_O), .unset, .unset, .unset, .unset]) rfl ?_
      show Steps p.tables e below (T1.setTop (mkF m 26 #[.val (.int p0), .val (.int (0 : Int32)), .val (.ref w_O), .unset, .unset, .unset, .unset] [])) t
      refine XS.iloadN X1.here hx rfl (hb hby at_26) rfl ?_
      show Steps p.tables e below (T1.setTop (mkF m 27 #[.val (.int p0), .val (.int (0 : Int32)), .val (.ref w_O), .unset, .unset, .unset, .unset] [(.int (0 : Int32))])) t
      refine XS.ifYes X1.here hx rfl (pc0 := 27) (pc' := 36) rfl (hb hby at_27) rfl ((if0 _ _).trans (teq (by decide : (0 : Int32) = (0 : Int32))).1) (by decide) (by decide) ?_
      exact kt
    obtain ⟨T2, X2, e2, st2⟩ := getS2 X1 hx hZ hown (host := "") (Or.inl (own_wd hw 3 rfl)) Via.refl e1 S_Value_O_WINS (g := (mkF m 36 #[.val (.int p0), .val (.int (0 : Int32)), .val (.ref w_O), .unset, .unset, .unset, .unset] [])) rfl (hb hby at_36)
    refine OGo.step st2 ?_
    show OGo _ _ _ _ _ _ _ (T2.setTop (mkF m 39 #[.val (.int p0), .val (.int (0 : Int32)), .val (.ref w_O), .unset, .unset, .unset, .unset] [(.ref w_O_WINS)]))
    refine OGo.step (F' := T2.setTop (mkF m 41 #[.val (.int p0), .val (.int (0 : Int32)), .val (.ref w_O), .val (.ref w_O_WINS), .unset, .unset, .unset] [(.ref w_O)])) (fun t kt => ?_) ?_
    · show Steps p.tables e below (T2.setTop (mkF m 39 #[.val (.int p0), .val (.int (0 : Int32)), .val (.ref w_O), .unset, .unset, .unset, .unset] [(.ref w_O_WINS)])) t
      refine XS.astoreN X2.here hx rfl (hb hby at_39) rfl rfl (l' := #[.val (.int p0), .val (.int (0 : Int32)), .val (.ref w_O), .val (.ref w_O_WINS), .unset, .unset, .unset]) rfl ?_
      show Steps p.tables e below (T2.setTop (mkF m 40 #[.val (.int p0), .val (.int (0 : Int32)), .val (.ref w_O), .val (.ref w_O_WINS), .unset, .unset, .unset] [])) t
      refine XS.aloadN X2.here hx rfl (hb hby at_40) rfl rfl ?_
      exact kt
    refine OGo.callS X2 hx hZ (y := (⟨"com/example/trigrid/trigrid/Value", "winFor", "(Lcom/example/trigrid/trigrid/Mark;)Lcom/example/trigrid/trigrid/Value;"⟩ : MethodName)) hown (own_wd hw 6 rfl) (own_wd hw 7 rfl) (own_wd hw 4 rfl) (own_wd hw 8 rfl) (by decide) (rm1 l Z az hw [] w_O w_X w_X_WINS w_O_WINS h0 n0 Z0 S_Mark_X S_Value_X_WINS S_Value_O_WINS) (W := 0) (by decide) (by decide) (g := (mkF m 41 #[.val (.int p0), .val (.int (0 : Int32)), .val (.ref w_O), .val (.ref w_O_WINS), .unset, .unset, .unset] [(.ref w_O)])) rfl (by rw [hml]; rfl) (argsL := [(.ref w_O)]) (rest := []) (lenOf pd_0_0 rfl) rfl (by show 2 * 0 + _ ≤ _; exact Nat.le_of_eq rfl) (hb hby at_41) rfl e2 (by decide) (by decide) ?_
    rintro _ T3 L3 X3 ⟨hv3, Nq3, e3⟩
    have N3 := Fr.app N0 Nq3
    rw [show f1 w_O w_X w_X_WINS w_O_WINS = w_O_WINS from if_neg neOX] at hv3
    subst hv3
    show OGo _ _ _ _ _ _ _ (T3.setTop (mkF m 44 #[.val (.int p0), .val (.int (0 : Int32)), .val (.ref w_O), .val (.ref w_O_WINS), .unset, .unset, .unset] [(.ref w_O_WINS)]))
    refine OGo.step (F' := T3.setTop (mkF m 56 #[.val (.int p0), .val (.int (0 : Int32)), .val (.ref w_O), .val (.ref w_O_WINS), .val (.ref w_O_WINS), .unset, .unset] [(.ref w_O_WINS)])) (fun t kt => ?_) ?_
    · show Steps p.tables e below (T3.setTop (mkF m 44 #[.val (.int p0), .val (.int (0 : Int32)), .val (.ref w_O), .val (.ref w_O_WINS), .unset, .unset, .unset] [(.ref w_O_WINS)])) t
      refine XS.astore X3.here hx rfl (hb hby at_44) rfl rfl (l' := #[.val (.int p0), .val (.int (0 : Int32)), .val (.ref w_O), .val (.ref w_O_WINS), .val (.ref w_O_WINS), .unset, .unset]) rfl ?_
      show Steps p.tables e below (T3.setTop (mkF m 46 #[.val (.int p0), .val (.int (0 : Int32)), .val (.ref w_O), .val (.ref w_O_WINS), .val (.ref w_O_WINS), .unset, .unset] [])) t
      refine XS.aload X3.here hx rfl (hb hby at_46) rfl rfl ?_
      show Steps p.tables e below (T3.setTop (mkF m 48 #[.val (.int p0), .val (.int (0 : Int32)), .val (.ref w_O), .val (.ref w_O_WINS), .val (.ref w_O_WINS), .unset, .unset] [(.ref w_O_WINS)])) t
      refine XS.aloadN X3.here hx rfl (hb hby at_48) rfl rfl ?_
      show Steps p.tables e below (T3.setTop (mkF m 49 #[.val (.int p0), .val (.int (0 : Int32)), .val (.ref w_O), .val (.ref w_O_WINS), .val (.ref w_O_WINS), .unset, .unset] [(.ref w_O_WINS), (.ref w_O_WINS)])) t
      refine Jvm.RoadKit.acmp (g := (mkF m 49 #[.val (.int p0), .val (.int (0 : Int32)), .val (.ref w_O), .val (.ref w_O_WINS), .val (.ref w_O_WINS), .unset, .unset] [(.ref w_O_WINS), (.ref w_O_WINS)])) X3 hx rfl rfl rfl (pc0 := 49) (pc' := 54) (same := true) rfl (hb hby at_49) rfl (decide_eq_true rfl) (by decide) (by decide) ?_
      show Steps p.tables e below (T3.setTop (mkF m 54 #[.val (.int p0), .val (.int (0 : Int32)), .val (.ref w_O), .val (.ref w_O_WINS), .val (.ref w_O_WINS), .unset, .unset] [])) t
      refine XS.aload X3.here hx rfl (hb hby at_54) rfl rfl ?_
      exact kt
    obtain ⟨T4, X4, e4, st4⟩ := getS2 X3 hx hZ hown (host := "") (Or.inl (own_wd hw 12 rfl)) Via.refl e3 S_Value_DRAW (g := (mkF m 56 #[.val (.int p0), .val (.int (0 : Int32)), .val (.ref w_O), .val (.ref w_O_WINS), .val (.ref w_O_WINS), .unset, .unset] [(.ref w_O_WINS)])) rfl (hb hby at_56)
    refine OGo.step st4 ?_
    show OGo _ _ _ _ _ _ _ (T4.setTop (mkF m 59 #[.val (.int p0), .val (.int (0 : Int32)), .val (.ref w_O), .val (.ref w_O_WINS), .val (.ref w_O_WINS), .unset, .unset] [(.ref w_DRAW), (.ref w_O_WINS)]))
    refine OGo.step (F' := T4.setTop (mkF m 66 #[.val (.int p0), .val (.int (0 : Int32)), .val (.ref w_O), .val (.ref w_O_WINS), .val (.ref w_O_WINS), .unset, .unset] [(.ref w_O_WINS)])) (fun t kt => ?_) ?_
    · show Steps p.tables e below (T4.setTop (mkF m 59 #[.val (.int p0), .val (.int (0 : Int32)), .val (.ref w_O), .val (.ref w_O_WINS), .val (.ref w_O_WINS), .unset, .unset] [(.ref w_DRAW), (.ref w_O_WINS)])) t
      refine Jvm.RoadKit.acmp (g := (mkF m 59 #[.val (.int p0), .val (.int (0 : Int32)), .val (.ref w_O), .val (.ref w_O_WINS), .val (.ref w_O_WINS), .unset, .unset] [(.ref w_DRAW), (.ref w_O_WINS)])) X4 hx rfl rfl rfl (pc0 := 59) (pc' := 64) (same := false) rfl (hb hby at_59) rfl (decide_eq_false fun q => neOD (Value.ref.inj q)) (by decide) (by decide) ?_
      show Steps p.tables e below (T4.setTop (mkF m 64 #[.val (.int p0), .val (.int (0 : Int32)), .val (.ref w_O), .val (.ref w_O_WINS), .val (.ref w_O_WINS), .unset, .unset] [])) t
      refine XS.aload X4.here hx rfl (hb hby at_64) rfl rfl ?_
      exact kt
    refine OGo.callV X4 hx hZ (y := (⟨"com/example/trigrid/trigrid/Value", "label", "()Ljava/lang/String;"⟩ : MethodName)) (z := (⟨"com/example/trigrid/trigrid/Value", "label", "()Ljava/lang/String;"⟩ : MethodName)) hown (own_wd hw 14 rfl) (own_wd hw 15 rfl) (notFace_of_selects (args := #[]) (mvT hZ (own_wd hw 17 rfl))) (own_wd hw 17 rfl) (own_wd hw 16 rfl) (own_wd hw 4 rfl) (own_wd hw 18 rfl) (by decide) (rm2 l Z az hw [] w_O_WINS w_lo h0 n0 Z0 F_label_w_O_WINS) (W := 0) (by decide) (by decide) E_w_O_WINS (g := (mkF m 66 #[.val (.int p0), .val (.int (0 : Int32)), .val (.ref w_O), .val (.ref w_O_WINS), .val (.ref w_O_WINS), .unset, .unset] [(.ref w_O_WINS)])) rfl (by rw [hml]; rfl) (argsL := []) (rest := []) (lenOf pd_0_1 rfl) rfl (by show 2 * 0 + _ ≤ _; exact Nat.le_of_eq rfl) (hb hby at_66) rfl e4 (by decide) (by decide) ?_
    rintro _ T5 L5 X5 ⟨hv5, Nq5, e5⟩
    have N5 := Fr.app N3 Nq5
    rw [show f2 w_lo = w_lo from rfl] at hv5
    subst hv5
    show OGo _ _ _ _ _ _ _ (T5.setTop (mkF m 69 #[.val (.int p0), .val (.int (0 : Int32)), .val (.ref w_O), .val (.ref w_O_WINS), .val (.ref w_O_WINS), .unset, .unset] [(.ref w_lo)]))
    refine OGo.step (F' := T5.setTop (mkF m 73 #[.val (.int p0), .val (.int (0 : Int32)), .val (.ref w_O), .val (.ref w_O_WINS), .val (.ref w_O_WINS), .val (.ref w_lo), .unset] [(.ref w_lo)])) (fun t kt => ?_) ?_
    · show Steps p.tables e below (T5.setTop (mkF m 69 #[.val (.int p0), .val (.int (0 : Int32)), .val (.ref w_O), .val (.ref w_O_WINS), .val (.ref w_O_WINS), .unset, .unset] [(.ref w_lo)])) t
      refine XS.astore X5.here hx rfl (hb hby at_69) rfl rfl (l' := #[.val (.int p0), .val (.int (0 : Int32)), .val (.ref w_O), .val (.ref w_O_WINS), .val (.ref w_O_WINS), .val (.ref w_lo), .unset]) rfl ?_
      show Steps p.tables e below (T5.setTop (mkF m 71 #[.val (.int p0), .val (.int (0 : Int32)), .val (.ref w_O), .val (.ref w_O_WINS), .val (.ref w_O_WINS), .val (.ref w_lo), .unset] [])) t
      refine XS.aload X5.here hx rfl (hb hby at_71) rfl rfl ?_
      exact kt
    refine OGo.callV X5 hx hZ (y := (⟨"java/lang/String", "isEmpty", "()Z"⟩ : MethodName)) (z := (⟨"java/lang/String", "isEmpty", "()Z"⟩ : MethodName)) hown (own_wd hw 21 rfl) (own_wd hw 22 rfl) (notFace_of_selects (args := #[]) (mvT hZ (own_wd hw 24 rfl))) (own_wd hw 24 rfl) (own_wd hw 23 rfl) (own_wd hw 25 rfl) (own_wd hw 26 rfl) (by decide) (rm3 l Z az hw [] w_lo w_vo k_o (6 : Int32) [(.int (111 : Int32)), (.int (45 : Int32)), (.int (119 : Int32)), (.int (105 : Int32)), (.int (110 : Int32)), (.int (115 : Int32))] h0 n0 Z0 F_value_w_lo V_w_vo) (W := 0) (by decide) (by decide) E_w_lo (g := (mkF m 73 #[.val (.int p0), .val (.int (0 : Int32)), .val (.ref w_O), .val (.ref w_O_WINS), .val (.ref w_O_WINS), .val (.ref w_lo), .unset] [(.ref w_lo)])) rfl (by rw [hml]; rfl) (argsL := []) (rest := []) (lenOf pd_0_2 rfl) rfl (by show 2 * 0 + _ ≤ _; exact Nat.le_of_eq rfl) (hb hby at_73) rfl e5 (by decide) (by decide) ?_
    rintro _ T6 L6 X6 ⟨hv6, Nq6, e6⟩
    have N6 := Fr.app N5 Nq6
    rw [show f3 (6 : Int32) = (0 : Int32) from by decide] at hv6
    subst hv6
    show OGo _ _ _ _ _ _ _ (T6.setTop (mkF m 76 #[.val (.int p0), .val (.int (0 : Int32)), .val (.ref w_O), .val (.ref w_O_WINS), .val (.ref w_O_WINS), .val (.ref w_lo), .unset] [(.int (0 : Int32))]))
    refine OGo.step (F' := T6.setTop (mkF m 82 #[.val (.int p0), .val (.int (0 : Int32)), .val (.ref w_O), .val (.ref w_O_WINS), .val (.ref w_O_WINS), .val (.ref w_lo), .unset] [(.int (0 : Int32)), (.ref w_lo)])) (fun t kt => ?_) ?_
    · show Steps p.tables e below (T6.setTop (mkF m 76 #[.val (.int p0), .val (.int (0 : Int32)), .val (.ref w_O), .val (.ref w_O_WINS), .val (.ref w_O_WINS), .val (.ref w_lo), .unset] [(.int (0 : Int32))])) t
      refine XS.ifNo X6.here hx rfl (hb hby at_76) rfl ((if0 _ _).trans (teq (by decide : (0 : Int32) = (0 : Int32))).2) ?_
      show Steps p.tables e below (T6.setTop (mkF m 79 #[.val (.int p0), .val (.int (0 : Int32)), .val (.ref w_O), .val (.ref w_O_WINS), .val (.ref w_O_WINS), .val (.ref w_lo), .unset] [])) t
      refine XS.aload X6.here hx rfl (hb hby at_79) rfl rfl ?_
      show Steps p.tables e below (T6.setTop (mkF m 81 #[.val (.int p0), .val (.int (0 : Int32)), .val (.ref w_O), .val (.ref w_O_WINS), .val (.ref w_O_WINS), .val (.ref w_lo), .unset] [(.ref w_lo)])) t
      refine XS.iconst X6.here hx rfl (hb hby at_81) ?_
      exact kt
    refine OGo.callV X6 hx hZ (y := (⟨"java/lang/String", "charAt", "(I)C"⟩ : MethodName)) (z := (⟨"java/lang/String", "charAt", "(I)C"⟩ : MethodName)) hown (own_wd hw 29 rfl) (own_wd hw 30 rfl) (notFace_of_selects (args := #[]) (mvT hZ (own_wd hw 32 rfl))) (own_wd hw 32 rfl) (own_wd hw 31 rfl) (own_wd hw 25 rfl) (own_wd hw 33 rfl) (by decide) (rm4 l Z az hw [] w_lo (0 : Int32) (111 : Int32) w_COMPACT_STRINGS w_vo k_o (6 : Int32) [(.int (111 : Int32)), (.int (45 : Int32)), (.int (119 : Int32)), (.int (105 : Int32)), (.int (110 : Int32)), (.int (115 : Int32))] w_SIOOBE_FORMATTER h0 n0 Z0 hC F_coder_w_lo (by decide) (by decide) hcS rfl S_String_COMPACT_STRINGS E_w_lo F_value_w_lo V_w_vo S_Preconditions_SIOOBE_FORMATTER) (W := 0) (by decide) (by decide) E_w_lo (g := (mkF m 82 #[.val (.int p0), .val (.int (0 : Int32)), .val (.ref w_O), .val (.ref w_O_WINS), .val (.ref w_O_WINS), .val (.ref w_lo), .unset] [(.int (0 : Int32)), (.ref w_lo)])) rfl (by rw [hml]; rfl) (argsL := [(.int (0 : Int32))]) (rest := []) (lenOf pd_0_3 rfl) rfl (by show 2 * 0 + _ ≤ _; exact Nat.le_of_eq rfl) (hb hby at_82) rfl e6 (by decide) (by decide) ?_
    rintro _ T7 L7 X7 ⟨hv7, Nq7, e7⟩
    have N7 := Fr.app N6 Nq7
    rw [show f4 (111 : Int32) = (111 : Int32) from by decide] at hv7
    subst hv7
    show OGo _ _ _ _ _ _ _ (T7.setTop (mkF m 85 #[.val (.int p0), .val (.int (0 : Int32)), .val (.ref w_O), .val (.ref w_O_WINS), .val (.ref w_O_WINS), .val (.ref w_lo), .unset] [(.int (111 : Int32))]))
    refine OGo.step (F' := T7.setTop (mkF m 86 #[.val (.int p0), .val (.int (0 : Int32)), .val (.ref w_O), .val (.ref w_O_WINS), .val (.ref w_O_WINS), .val (.ref w_lo), .unset] [(.ref w_O), (.int (111 : Int32))])) (fun t kt => ?_) ?_
    · show Steps p.tables e below (T7.setTop (mkF m 85 #[.val (.int p0), .val (.int (0 : Int32)), .val (.ref w_O), .val (.ref w_O_WINS), .val (.ref w_O_WINS), .val (.ref w_lo), .unset] [(.int (111 : Int32))])) t
      refine XS.aloadN X7.here hx rfl (hb hby at_85) rfl rfl ?_
      exact kt
    refine OGo.callV X7 hx hZ (y := (⟨"com/example/trigrid/trigrid/Mark", "symbol", "()C"⟩ : MethodName)) (z := (⟨"com/example/trigrid/trigrid/Mark", "symbol", "()C"⟩ : MethodName)) hown (own_wd hw 54 rfl) (own_wd hw 55 rfl) (notFace_of_selects (args := #[]) (mvT hZ (own_wd hw 57 rfl))) (own_wd hw 57 rfl) (own_wd hw 56 rfl) (own_wd hw 1 rfl) (own_wd hw 58 rfl) (by decide) (rm9 l Z az hw [] w_O (111 : Int32) h0 n0 Z0 F_symbol_w_O) (W := 1) (by decide) (by decide) E_w_O (g := (mkF m 86 #[.val (.int p0), .val (.int (0 : Int32)), .val (.ref w_O), .val (.ref w_O_WINS), .val (.ref w_O_WINS), .val (.ref w_lo), .unset] [(.ref w_O), (.int (111 : Int32))])) rfl (by rw [hml]; rfl) (argsL := []) (rest := [(.int (111 : Int32))]) (lenOf pd_0_4 rfl) rfl (by show 2 * 0 + _ ≤ _; exact Nat.le_of_eq rfl) (hb hby at_86) rfl e7 (by decide) (by decide) ?_
    rintro _ T8 L8 X8 ⟨hv8, Nq8, e8⟩
    have N8 := Fr.app N7 Nq8
    rw [show f9 (111 : Int32) = (111 : Int32) from by decide] at hv8
    subst hv8
    show OGo _ _ _ _ _ _ _ (T8.setTop (mkF m 89 #[.val (.int p0), .val (.int (0 : Int32)), .val (.ref w_O), .val (.ref w_O_WINS), .val (.ref w_O_WINS), .val (.ref w_lo), .unset] [(.int (111 : Int32)), (.int (111 : Int32))]))
    refine OGo.step (F' := T8.setTop (mkF m 95 #[.val (.int p0), .val (.int (0 : Int32)), .val (.ref w_O), .val (.ref w_O_WINS), .val (.ref w_O_WINS), .val (.ref w_lo), .unset] [(.ref w_O)])) (fun t kt => ?_) ?_
    · show Steps p.tables e below (T8.setTop (mkF m 89 #[.val (.int p0), .val (.int (0 : Int32)), .val (.ref w_O), .val (.ref w_O_WINS), .val (.ref w_O_WINS), .val (.ref w_lo), .unset] [(.int (111 : Int32)), (.int (111 : Int32))])) t
      refine XS.icmpYes X8.here hx rfl (pc0 := 89) (pc' := 94) rfl (hb hby at_89) rfl (teq (by decide : (111 : Int32) = (111 : Int32))).1 (by decide) (by decide) ?_
      show Steps p.tables e below (T8.setTop (mkF m 94 #[.val (.int p0), .val (.int (0 : Int32)), .val (.ref w_O), .val (.ref w_O_WINS), .val (.ref w_O_WINS), .val (.ref w_lo), .unset] [])) t
      refine XS.aloadN X8.here hx rfl (hb hby at_94) rfl rfl ?_
      exact kt
    refine OGo.callV X8 hx hZ (y := (⟨"com/example/trigrid/trigrid/Mark", "opponent", "()Lcom/example/trigrid/trigrid/Mark;"⟩ : MethodName)) (z := (⟨"com/example/trigrid/trigrid/Mark", "opponent", "()Lcom/example/trigrid/trigrid/Mark;"⟩ : MethodName)) hown (own_wd hw 61 rfl) (own_wd hw 62 rfl) (notFace_of_selects (args := #[]) (mvT hZ (own_wd hw 64 rfl))) (own_wd hw 64 rfl) (own_wd hw 63 rfl) (own_wd hw 1 rfl) (own_wd hw 65 rfl) (by decide) (rm10 l Z az hw [] w_O w_X w_O h0 n0 Z0 S_Mark_X S_Mark_O) (W := 0) (by decide) (by decide) E_w_O (g := (mkF m 95 #[.val (.int p0), .val (.int (0 : Int32)), .val (.ref w_O), .val (.ref w_O_WINS), .val (.ref w_O_WINS), .val (.ref w_lo), .unset] [(.ref w_O)])) rfl (by rw [hml]; rfl) (argsL := []) (rest := []) (lenOf pd_0_5 rfl) rfl (by show 2 * 0 + _ ≤ _; exact Nat.le_of_eq rfl) (hb hby at_95) rfl e8 (by decide) (by decide) ?_
    rintro _ T9 L9 X9 ⟨hv9, Nq9, e9⟩
    have N9 := Fr.app N8 Nq9
    rw [show f10 w_O w_X w_O = w_X from if_neg neOX] at hv9
    subst hv9
    show OGo _ _ _ _ _ _ _ (T9.setTop (mkF m 98 #[.val (.int p0), .val (.int (0 : Int32)), .val (.ref w_O), .val (.ref w_O_WINS), .val (.ref w_O_WINS), .val (.ref w_lo), .unset] [(.ref w_X)]))
    refine OGo.callS X9 hx hZ (y := (⟨"com/example/trigrid/trigrid/Value", "winFor", "(Lcom/example/trigrid/trigrid/Mark;)Lcom/example/trigrid/trigrid/Value;"⟩ : MethodName)) hown (own_wd hw 6 rfl) (own_wd hw 7 rfl) (own_wd hw 4 rfl) (own_wd hw 8 rfl) (by decide) (rm1 l Z az hw [] w_X w_X w_X_WINS w_O_WINS h0 n0 Z0 S_Mark_X S_Value_X_WINS S_Value_O_WINS) (W := 0) (by decide) (by decide) (g := (mkF m 98 #[.val (.int p0), .val (.int (0 : Int32)), .val (.ref w_O), .val (.ref w_O_WINS), .val (.ref w_O_WINS), .val (.ref w_lo), .unset] [(.ref w_X)])) rfl (by rw [hml]; rfl) (argsL := [(.ref w_X)]) (rest := []) (lenOf pd_0_0 rfl) rfl (by show 2 * 0 + _ ≤ _; exact Nat.le_of_eq rfl) (hb hby at_98) rfl e9 (by decide) (by decide) ?_
    rintro _ T10 L10 X10 ⟨hv10, Nq10, e10⟩
    have N10 := Fr.app N9 Nq10
    rw [show f1 w_X w_X w_X_WINS w_O_WINS = w_X_WINS from if_pos rfl] at hv10
    subst hv10
    show OGo _ _ _ _ _ _ _ (T10.setTop (mkF m 101 #[.val (.int p0), .val (.int (0 : Int32)), .val (.ref w_O), .val (.ref w_O_WINS), .val (.ref w_O_WINS), .val (.ref w_lo), .unset] [(.ref w_X_WINS)]))
    refine OGo.step (F' := T10.setTop (mkF m 115 #[.val (.int p0), .val (.int (0 : Int32)), .val (.ref w_O), .val (.ref w_O_WINS), .val (.ref w_O_WINS), .val (.ref w_lo), .val (.ref w_X_WINS)] [(.int (1 : Int32))])) (fun t kt => ?_) ?_
    · show Steps p.tables e below (T10.setTop (mkF m 101 #[.val (.int p0), .val (.int (0 : Int32)), .val (.ref w_O), .val (.ref w_O_WINS), .val (.ref w_O_WINS), .val (.ref w_lo), .unset] [(.ref w_X_WINS)])) t
      refine XS.astore X10.here hx rfl (hb hby at_101) rfl rfl (l' := #[.val (.int p0), .val (.int (0 : Int32)), .val (.ref w_O), .val (.ref w_O_WINS), .val (.ref w_O_WINS), .val (.ref w_lo), .val (.ref w_X_WINS)]) rfl ?_
      show Steps p.tables e below (T10.setTop (mkF m 103 #[.val (.int p0), .val (.int (0 : Int32)), .val (.ref w_O), .val (.ref w_O_WINS), .val (.ref w_O_WINS), .val (.ref w_lo), .val (.ref w_X_WINS)] [])) t
      refine XS.aload X10.here hx rfl (hb hby at_103) rfl rfl ?_
      show Steps p.tables e below (T10.setTop (mkF m 105 #[.val (.int p0), .val (.int (0 : Int32)), .val (.ref w_O), .val (.ref w_O_WINS), .val (.ref w_O_WINS), .val (.ref w_lo), .val (.ref w_X_WINS)] [(.ref w_X_WINS)])) t
      refine XS.aload X10.here hx rfl (hb hby at_105) rfl rfl ?_
      show Steps p.tables e below (T10.setTop (mkF m 107 #[.val (.int p0), .val (.int (0 : Int32)), .val (.ref w_O), .val (.ref w_O_WINS), .val (.ref w_O_WINS), .val (.ref w_lo), .val (.ref w_X_WINS)] [(.ref w_O_WINS), (.ref w_X_WINS)])) t
      refine Jvm.RoadKit.acmp (g := (mkF m 107 #[.val (.int p0), .val (.int (0 : Int32)), .val (.ref w_O), .val (.ref w_O_WINS), .val (.ref w_O_WINS), .val (.ref w_lo), .val (.ref w_X_WINS)] [(.ref w_O_WINS), (.ref w_X_WINS)])) X10 hx rfl rfl rfl (pc0 := 107) (pc' := 110) (same := false) rfl (hb hby at_107) rfl (decide_eq_false fun q => neW (Value.ref.inj q)) (by decide) (by decide) ?_
      show Steps p.tables e below (T10.setTop (mkF m 110 #[.val (.int p0), .val (.int (0 : Int32)), .val (.ref w_O), .val (.ref w_O_WINS), .val (.ref w_O_WINS), .val (.ref w_lo), .val (.ref w_X_WINS)] [])) t
      refine XS.iconst X10.here hx rfl (hb hby at_110) ?_
      show Steps p.tables e below (T10.setTop (mkF m 111 #[.val (.int p0), .val (.int (0 : Int32)), .val (.ref w_O), .val (.ref w_O_WINS), .val (.ref w_O_WINS), .val (.ref w_lo), .val (.ref w_X_WINS)] [(.int (1 : Int32))])) t
      refine XS.goto X10.here hx rfl (pc0 := 111) (pc' := 115) rfl (hb hby at_111) (by decide) (by decide) ?_
      exact kt
    refine OGo.retZ X10 hx hlk (t := .boolean) (z' := (1 : Int32)) hret (by simp) (hb hby at_115) rfl ?_ (by decide) (by decide)
    exact ⟨(by rw [f0, if_pos hc3]), N10, e10⟩
  · refine OGo.step (F' := s₁.setTop (mkF m 6 #[.val (.int p0), .unset, .unset, .unset, .unset, .unset, .unset] [])) (fun t kt => ?_) ?_
    · show Steps p.tables e below (s₁.setTop (mkF m 3 #[.val (.int p0), .unset, .unset, .unset, .unset, .unset, .unset] [(.int (p0 &&& (1 : Int32)))])) t
      refine XS.ifNo X0.here hx rfl (hb hby at_3) rfl ((if0 _ _).trans (feq hc3).1) ?_
      exact kt
    refine OGo.step (F' := s₁.setTop (mkF m 16 #[.val (.int p0), .val (.int (1 : Int32)), .unset, .unset, .unset, .unset, .unset] [])) (fun t kt => ?_) ?_
    · show Steps p.tables e below (s₁.setTop (mkF m 6 #[.val (.int p0), .unset, .unset, .unset, .unset, .unset, .unset] [])) t
      refine XS.iconst X0.here hx rfl (hb hby at_6) ?_
      show Steps p.tables e below (s₁.setTop (mkF m 7 #[.val (.int p0), .unset, .unset, .unset, .unset, .unset, .unset] [(.int (1 : Int32))])) t
      refine XS.goto X0.here hx rfl (pc0 := 7) (pc' := 11) rfl (hb hby at_7) (by decide) (by decide) ?_
      show Steps p.tables e below (s₁.setTop (mkF m 11 #[.val (.int p0), .unset, .unset, .unset, .unset, .unset, .unset] [(.int (1 : Int32))])) t
      refine XS.istoreN X0.here hx rfl (hb hby at_11) rfl (l' := #[.val (.int p0), .val (.int (1 : Int32)), .unset, .unset, .unset, .unset, .unset]) rfl ?_
      show Steps p.tables e below (s₁.setTop (mkF m 12 #[.val (.int p0), .val (.int (1 : Int32)), .unset, .unset, .unset, .unset, .unset] [])) t
      refine XS.iloadN X0.here hx rfl (hb hby at_12) rfl ?_
      show Steps p.tables e below (s₁.setTop (mkF m 13 #[.val (.int p0), .val (.int (1 : Int32)), .unset, .unset, .unset, .unset, .unset] [(.int (1 : Int32))])) t
      refine XS.ifNo X0.here hx rfl (hb hby at_13) rfl ((if0 _ _).trans (feq (by decide : ¬ ((1 : Int32) = (0 : Int32)))).1) ?_
      exact kt
    obtain ⟨T11, X11, e11, st11⟩ := getS2 X0 hx hZ hown (host := "") (Or.inl (own_wd hw 69 rfl)) Via.refl e0 S_Mark_X (g := (mkF m 16 #[.val (.int p0), .val (.int (1 : Int32)), .unset, .unset, .unset, .unset, .unset] [])) rfl (hb hby at_16)
    refine OGo.step st11 ?_
    show OGo _ _ _ _ _ _ _ (T11.setTop (mkF m 19 #[.val (.int p0), .val (.int (1 : Int32)), .unset, .unset, .unset, .unset, .unset] [(.ref w_X)]))
    refine OGo.step (F' := T11.setTop (mkF m 30 #[.val (.int p0), .val (.int (1 : Int32)), .val (.ref w_X), .unset, .unset, .unset, .unset] [])) (fun t kt => ?_) ?_
    · show Steps p.tables e below (T11.setTop (mkF m 19 #[.val (.int p0), .val (.int (1 : Int32)), .unset, .unset, .unset, .unset, .unset] [(.ref w_X)])) t
      refine XS.goto X11.here hx rfl (pc0 := 19) (pc' := 25) rfl (hb hby at_19) (by decide) (by decide) ?_
      show Steps p.tables e below (T11.setTop (mkF m 25 #[.val (.int p0), .val (.int (1 : Int32)), .unset, .unset, .unset, .unset, .unset] [(.ref w_X)])) t
      refine XS.astoreN X11.here hx rfl (hb hby at_25) rfl rfl (l' := #[.val (.int p0), .val (.int (1 : Int32)), .val (.ref w_X), .unset, .unset, .unset, .unset]) rfl ?_
      show Steps p.tables e below (T11.setTop (mkF m 26 #[.val (.int p0), .val (.int (1 : Int32)), .val (.ref w_X), .unset, .unset, .unset, .unset] [])) t
      refine XS.iloadN X11.here hx rfl (hb hby at_26) rfl ?_
      show Steps p.tables e below (T11.setTop (mkF m 27 #[.val (.int p0), .val (.int (1 : Int32)), .val (.ref w_X), .unset, .unset, .unset, .unset] [(.int (1 : Int32))])) t
      refine XS.ifNo X11.here hx rfl (hb hby at_27) rfl ((if0 _ _).trans (feq (by decide : ¬ ((1 : Int32) = (0 : Int32)))).1) ?_
      exact kt
    obtain ⟨T12, X12, e12, st12⟩ := getS2 X11 hx hZ hown (host := "") (Or.inl (own_wd hw 70 rfl)) Via.refl e11 S_Value_X_WINS (g := (mkF m 30 #[.val (.int p0), .val (.int (1 : Int32)), .val (.ref w_X), .unset, .unset, .unset, .unset] [])) rfl (hb hby at_30)
    refine OGo.step st12 ?_
    show OGo _ _ _ _ _ _ _ (T12.setTop (mkF m 33 #[.val (.int p0), .val (.int (1 : Int32)), .val (.ref w_X), .unset, .unset, .unset, .unset] [(.ref w_X_WINS)]))
    refine OGo.step (F' := T12.setTop (mkF m 41 #[.val (.int p0), .val (.int (1 : Int32)), .val (.ref w_X), .val (.ref w_X_WINS), .unset, .unset, .unset] [(.ref w_X)])) (fun t kt => ?_) ?_
    · show Steps p.tables e below (T12.setTop (mkF m 33 #[.val (.int p0), .val (.int (1 : Int32)), .val (.ref w_X), .unset, .unset, .unset, .unset] [(.ref w_X_WINS)])) t
      refine XS.goto X12.here hx rfl (pc0 := 33) (pc' := 39) rfl (hb hby at_33) (by decide) (by decide) ?_
      show Steps p.tables e below (T12.setTop (mkF m 39 #[.val (.int p0), .val (.int (1 : Int32)), .val (.ref w_X), .unset, .unset, .unset, .unset] [(.ref w_X_WINS)])) t
      refine XS.astoreN X12.here hx rfl (hb hby at_39) rfl rfl (l' := #[.val (.int p0), .val (.int (1 : Int32)), .val (.ref w_X), .val (.ref w_X_WINS), .unset, .unset, .unset]) rfl ?_
      show Steps p.tables e below (T12.setTop (mkF m 40 #[.val (.int p0), .val (.int (1 : Int32)), .val (.ref w_X), .val (.ref w_X_WINS), .unset, .unset, .unset] [])) t
      refine XS.aloadN X12.here hx rfl (hb hby at_40) rfl rfl ?_
      exact kt
    refine OGo.callS X12 hx hZ (y := (⟨"com/example/trigrid/trigrid/Value", "winFor", "(Lcom/example/trigrid/trigrid/Mark;)Lcom/example/trigrid/trigrid/Value;"⟩ : MethodName)) hown (own_wd hw 6 rfl) (own_wd hw 7 rfl) (own_wd hw 4 rfl) (own_wd hw 8 rfl) (by decide) (rm1 l Z az hw [] w_X w_X w_X_WINS w_O_WINS h0 n0 Z0 S_Mark_X S_Value_X_WINS S_Value_O_WINS) (W := 0) (by decide) (by decide) (g := (mkF m 41 #[.val (.int p0), .val (.int (1 : Int32)), .val (.ref w_X), .val (.ref w_X_WINS), .unset, .unset, .unset] [(.ref w_X)])) rfl (by rw [hml]; rfl) (argsL := [(.ref w_X)]) (rest := []) (lenOf pd_0_0 rfl) rfl (by show 2 * 0 + _ ≤ _; exact Nat.le_of_eq rfl) (hb hby at_41) rfl e12 (by decide) (by decide) ?_
    rintro _ T13 L13 X13 ⟨hv13, Nq13, e13⟩
    have N13 := Fr.app N0 Nq13
    rw [show f1 w_X w_X w_X_WINS w_O_WINS = w_X_WINS from if_pos rfl] at hv13
    subst hv13
    show OGo _ _ _ _ _ _ _ (T13.setTop (mkF m 44 #[.val (.int p0), .val (.int (1 : Int32)), .val (.ref w_X), .val (.ref w_X_WINS), .unset, .unset, .unset] [(.ref w_X_WINS)]))
    refine OGo.step (F' := T13.setTop (mkF m 56 #[.val (.int p0), .val (.int (1 : Int32)), .val (.ref w_X), .val (.ref w_X_WINS), .val (.ref w_X_WINS), .unset, .unset] [(.ref w_X_WINS)])) (fun t kt => ?_) ?_
    · show Steps p.tables e below (T13.setTop (mkF m 44 #[.val (.int p0), .val (.int (1 : Int32)), .val (.ref w_X), .val (.ref w_X_WINS), .unset, .unset, .unset] [(.ref w_X_WINS)])) t
      refine XS.astore X13.here hx rfl (hb hby at_44) rfl rfl (l' := #[.val (.int p0), .val (.int (1 : Int32)), .val (.ref w_X), .val (.ref w_X_WINS), .val (.ref w_X_WINS), .unset, .unset]) rfl ?_
      show Steps p.tables e below (T13.setTop (mkF m 46 #[.val (.int p0), .val (.int (1 : Int32)), .val (.ref w_X), .val (.ref w_X_WINS), .val (.ref w_X_WINS), .unset, .unset] [])) t
      refine XS.aload X13.here hx rfl (hb hby at_46) rfl rfl ?_
      show Steps p.tables e below (T13.setTop (mkF m 48 #[.val (.int p0), .val (.int (1 : Int32)), .val (.ref w_X), .val (.ref w_X_WINS), .val (.ref w_X_WINS), .unset, .unset] [(.ref w_X_WINS)])) t
      refine XS.aloadN X13.here hx rfl (hb hby at_48) rfl rfl ?_
      show Steps p.tables e below (T13.setTop (mkF m 49 #[.val (.int p0), .val (.int (1 : Int32)), .val (.ref w_X), .val (.ref w_X_WINS), .val (.ref w_X_WINS), .unset, .unset] [(.ref w_X_WINS), (.ref w_X_WINS)])) t
      refine Jvm.RoadKit.acmp (g := (mkF m 49 #[.val (.int p0), .val (.int (1 : Int32)), .val (.ref w_X), .val (.ref w_X_WINS), .val (.ref w_X_WINS), .unset, .unset] [(.ref w_X_WINS), (.ref w_X_WINS)])) X13 hx rfl rfl rfl (pc0 := 49) (pc' := 54) (same := true) rfl (hb hby at_49) rfl (decide_eq_true rfl) (by decide) (by decide) ?_
      show Steps p.tables e below (T13.setTop (mkF m 54 #[.val (.int p0), .val (.int (1 : Int32)), .val (.ref w_X), .val (.ref w_X_WINS), .val (.ref w_X_WINS), .unset, .unset] [])) t
      refine XS.aload X13.here hx rfl (hb hby at_54) rfl rfl ?_
      exact kt
    obtain ⟨T14, X14, e14, st14⟩ := getS2 X13 hx hZ hown (host := "") (Or.inl (own_wd hw 12 rfl)) Via.refl e13 S_Value_DRAW (g := (mkF m 56 #[.val (.int p0), .val (.int (1 : Int32)), .val (.ref w_X), .val (.ref w_X_WINS), .val (.ref w_X_WINS), .unset, .unset] [(.ref w_X_WINS)])) rfl (hb hby at_56)
    refine OGo.step st14 ?_
    show OGo _ _ _ _ _ _ _ (T14.setTop (mkF m 59 #[.val (.int p0), .val (.int (1 : Int32)), .val (.ref w_X), .val (.ref w_X_WINS), .val (.ref w_X_WINS), .unset, .unset] [(.ref w_DRAW), (.ref w_X_WINS)]))
    refine OGo.step (F' := T14.setTop (mkF m 66 #[.val (.int p0), .val (.int (1 : Int32)), .val (.ref w_X), .val (.ref w_X_WINS), .val (.ref w_X_WINS), .unset, .unset] [(.ref w_X_WINS)])) (fun t kt => ?_) ?_
    · show Steps p.tables e below (T14.setTop (mkF m 59 #[.val (.int p0), .val (.int (1 : Int32)), .val (.ref w_X), .val (.ref w_X_WINS), .val (.ref w_X_WINS), .unset, .unset] [(.ref w_DRAW), (.ref w_X_WINS)])) t
      refine Jvm.RoadKit.acmp (g := (mkF m 59 #[.val (.int p0), .val (.int (1 : Int32)), .val (.ref w_X), .val (.ref w_X_WINS), .val (.ref w_X_WINS), .unset, .unset] [(.ref w_DRAW), (.ref w_X_WINS)])) X14 hx rfl rfl rfl (pc0 := 59) (pc' := 64) (same := false) rfl (hb hby at_59) rfl (decide_eq_false fun q => neXD (Value.ref.inj q)) (by decide) (by decide) ?_
      show Steps p.tables e below (T14.setTop (mkF m 64 #[.val (.int p0), .val (.int (1 : Int32)), .val (.ref w_X), .val (.ref w_X_WINS), .val (.ref w_X_WINS), .unset, .unset] [])) t
      refine XS.aload X14.here hx rfl (hb hby at_64) rfl rfl ?_
      exact kt
    refine OGo.callV X14 hx hZ (y := (⟨"com/example/trigrid/trigrid/Value", "label", "()Ljava/lang/String;"⟩ : MethodName)) (z := (⟨"com/example/trigrid/trigrid/Value", "label", "()Ljava/lang/String;"⟩ : MethodName)) hown (own_wd hw 14 rfl) (own_wd hw 15 rfl) (notFace_of_selects (args := #[]) (mvT hZ (own_wd hw 17 rfl))) (own_wd hw 17 rfl) (own_wd hw 16 rfl) (own_wd hw 4 rfl) (own_wd hw 18 rfl) (by decide) (rm2 l Z az hw [] w_X_WINS w_lx h0 n0 Z0 F_label_w_X_WINS) (W := 0) (by decide) (by decide) E_w_X_WINS (g := (mkF m 66 #[.val (.int p0), .val (.int (1 : Int32)), .val (.ref w_X), .val (.ref w_X_WINS), .val (.ref w_X_WINS), .unset, .unset] [(.ref w_X_WINS)])) rfl (by rw [hml]; rfl) (argsL := []) (rest := []) (lenOf pd_0_1 rfl) rfl (by show 2 * 0 + _ ≤ _; exact Nat.le_of_eq rfl) (hb hby at_66) rfl e14 (by decide) (by decide) ?_
    rintro _ T15 L15 X15 ⟨hv15, Nq15, e15⟩
    have N15 := Fr.app N13 Nq15
    rw [show f2 w_lx = w_lx from rfl] at hv15
    subst hv15
    show OGo _ _ _ _ _ _ _ (T15.setTop (mkF m 69 #[.val (.int p0), .val (.int (1 : Int32)), .val (.ref w_X), .val (.ref w_X_WINS), .val (.ref w_X_WINS), .unset, .unset] [(.ref w_lx)]))
    refine OGo.step (F' := T15.setTop (mkF m 73 #[.val (.int p0), .val (.int (1 : Int32)), .val (.ref w_X), .val (.ref w_X_WINS), .val (.ref w_X_WINS), .val (.ref w_lx), .unset] [(.ref w_lx)])) (fun t kt => ?_) ?_
    · show Steps p.tables e below (T15.setTop (mkF m 69 #[.val (.int p0), .val (.int (1 : Int32)), .val (.ref w_X), .val (.ref w_X_WINS), .val (.ref w_X_WINS), .unset, .unset] [(.ref w_lx)])) t
      refine XS.astore X15.here hx rfl (hb hby at_69) rfl rfl (l' := #[.val (.int p0), .val (.int (1 : Int32)), .val (.ref w_X), .val (.ref w_X_WINS), .val (.ref w_X_WINS), .val (.ref w_lx), .unset]) rfl ?_
      show Steps p.tables e below (T15.setTop (mkF m 71 #[.val (.int p0), .val (.int (1 : Int32)), .val (.ref w_X), .val (.ref w_X_WINS), .val (.ref w_X_WINS), .val (.ref w_lx), .unset] [])) t
      refine XS.aload X15.here hx rfl (hb hby at_71) rfl rfl ?_
      exact kt
    refine OGo.callV X15 hx hZ (y := (⟨"java/lang/String", "isEmpty", "()Z"⟩ : MethodName)) (z := (⟨"java/lang/String", "isEmpty", "()Z"⟩ : MethodName)) hown (own_wd hw 21 rfl) (own_wd hw 22 rfl) (notFace_of_selects (args := #[]) (mvT hZ (own_wd hw 24 rfl))) (own_wd hw 24 rfl) (own_wd hw 23 rfl) (own_wd hw 25 rfl) (own_wd hw 26 rfl) (by decide) (rm3 l Z az hw [] w_lx w_vx k_x (6 : Int32) [(.int (120 : Int32)), (.int (45 : Int32)), (.int (119 : Int32)), (.int (105 : Int32)), (.int (110 : Int32)), (.int (115 : Int32))] h0 n0 Z0 F_value_w_lx V_w_vx) (W := 0) (by decide) (by decide) E_w_lx (g := (mkF m 73 #[.val (.int p0), .val (.int (1 : Int32)), .val (.ref w_X), .val (.ref w_X_WINS), .val (.ref w_X_WINS), .val (.ref w_lx), .unset] [(.ref w_lx)])) rfl (by rw [hml]; rfl) (argsL := []) (rest := []) (lenOf pd_0_2 rfl) rfl (by show 2 * 0 + _ ≤ _; exact Nat.le_of_eq rfl) (hb hby at_73) rfl e15 (by decide) (by decide) ?_
    rintro _ T16 L16 X16 ⟨hv16, Nq16, e16⟩
    have N16 := Fr.app N15 Nq16
    rw [show f3 (6 : Int32) = (0 : Int32) from by decide] at hv16
    subst hv16
    show OGo _ _ _ _ _ _ _ (T16.setTop (mkF m 76 #[.val (.int p0), .val (.int (1 : Int32)), .val (.ref w_X), .val (.ref w_X_WINS), .val (.ref w_X_WINS), .val (.ref w_lx), .unset] [(.int (0 : Int32))]))
    refine OGo.step (F' := T16.setTop (mkF m 82 #[.val (.int p0), .val (.int (1 : Int32)), .val (.ref w_X), .val (.ref w_X_WINS), .val (.ref w_X_WINS), .val (.ref w_lx), .unset] [(.int (0 : Int32)), (.ref w_lx)])) (fun t kt => ?_) ?_
    · show Steps p.tables e below (T16.setTop (mkF m 76 #[.val (.int p0), .val (.int (1 : Int32)), .val (.ref w_X), .val (.ref w_X_WINS), .val (.ref w_X_WINS), .val (.ref w_lx), .unset] [(.int (0 : Int32))])) t
      refine XS.ifNo X16.here hx rfl (hb hby at_76) rfl ((if0 _ _).trans (teq (by decide : (0 : Int32) = (0 : Int32))).2) ?_
      show Steps p.tables e below (T16.setTop (mkF m 79 #[.val (.int p0), .val (.int (1 : Int32)), .val (.ref w_X), .val (.ref w_X_WINS), .val (.ref w_X_WINS), .val (.ref w_lx), .unset] [])) t
      refine XS.aload X16.here hx rfl (hb hby at_79) rfl rfl ?_
      show Steps p.tables e below (T16.setTop (mkF m 81 #[.val (.int p0), .val (.int (1 : Int32)), .val (.ref w_X), .val (.ref w_X_WINS), .val (.ref w_X_WINS), .val (.ref w_lx), .unset] [(.ref w_lx)])) t
      refine XS.iconst X16.here hx rfl (hb hby at_81) ?_
      exact kt
    refine OGo.callV X16 hx hZ (y := (⟨"java/lang/String", "charAt", "(I)C"⟩ : MethodName)) (z := (⟨"java/lang/String", "charAt", "(I)C"⟩ : MethodName)) hown (own_wd hw 29 rfl) (own_wd hw 30 rfl) (notFace_of_selects (args := #[]) (mvT hZ (own_wd hw 32 rfl))) (own_wd hw 32 rfl) (own_wd hw 31 rfl) (own_wd hw 25 rfl) (own_wd hw 33 rfl) (by decide) (rm4 l Z az hw [] w_lx (0 : Int32) (120 : Int32) w_COMPACT_STRINGS w_vx k_x (6 : Int32) [(.int (120 : Int32)), (.int (45 : Int32)), (.int (119 : Int32)), (.int (105 : Int32)), (.int (110 : Int32)), (.int (115 : Int32))] w_SIOOBE_FORMATTER h0 n0 Z0 hC F_coder_w_lx (by decide) (by decide) hcS rfl S_String_COMPACT_STRINGS E_w_lx F_value_w_lx V_w_vx S_Preconditions_SIOOBE_FORMATTER) (W := 0) (by decide) (by decide) E_w_lx (g := (mkF m 82 #[.val (.int p0), .val (.int (1 : Int32)), .val (.ref w_X), .val (.ref w_X_WINS), .val (.ref w_X_WINS), .val (.ref w_lx), .unset] [(.int (0 : Int32)), (.ref w_lx)])) rfl (by rw [hml]; rfl) (argsL := [(.int (0 : Int32))]) (rest := []) (lenOf pd_0_3 rfl) rfl (by show 2 * 0 + _ ≤ _; exact Nat.le_of_eq rfl) (hb hby at_82) rfl e16 (by decide) (by decide) ?_
    rintro _ T17 L17 X17 ⟨hv17, Nq17, e17⟩
    have N17 := Fr.app N16 Nq17
    rw [show f4 (120 : Int32) = (120 : Int32) from by decide] at hv17
    subst hv17
    show OGo _ _ _ _ _ _ _ (T17.setTop (mkF m 85 #[.val (.int p0), .val (.int (1 : Int32)), .val (.ref w_X), .val (.ref w_X_WINS), .val (.ref w_X_WINS), .val (.ref w_lx), .unset] [(.int (120 : Int32))]))
    refine OGo.step (F' := T17.setTop (mkF m 86 #[.val (.int p0), .val (.int (1 : Int32)), .val (.ref w_X), .val (.ref w_X_WINS), .val (.ref w_X_WINS), .val (.ref w_lx), .unset] [(.ref w_X), (.int (120 : Int32))])) (fun t kt => ?_) ?_
    · show Steps p.tables e below (T17.setTop (mkF m 85 #[.val (.int p0), .val (.int (1 : Int32)), .val (.ref w_X), .val (.ref w_X_WINS), .val (.ref w_X_WINS), .val (.ref w_lx), .unset] [(.int (120 : Int32))])) t
      refine XS.aloadN X17.here hx rfl (hb hby at_85) rfl rfl ?_
      exact kt
    refine OGo.callV X17 hx hZ (y := (⟨"com/example/trigrid/trigrid/Mark", "symbol", "()C"⟩ : MethodName)) (z := (⟨"com/example/trigrid/trigrid/Mark", "symbol", "()C"⟩ : MethodName)) hown (own_wd hw 54 rfl) (own_wd hw 55 rfl) (notFace_of_selects (args := #[]) (mvT hZ (own_wd hw 57 rfl))) (own_wd hw 57 rfl) (own_wd hw 56 rfl) (own_wd hw 1 rfl) (own_wd hw 58 rfl) (by decide) (rm9 l Z az hw [] w_X (120 : Int32) h0 n0 Z0 F_symbol_w_X) (W := 1) (by decide) (by decide) E_w_X (g := (mkF m 86 #[.val (.int p0), .val (.int (1 : Int32)), .val (.ref w_X), .val (.ref w_X_WINS), .val (.ref w_X_WINS), .val (.ref w_lx), .unset] [(.ref w_X), (.int (120 : Int32))])) rfl (by rw [hml]; rfl) (argsL := []) (rest := [(.int (120 : Int32))]) (lenOf pd_0_4 rfl) rfl (by show 2 * 0 + _ ≤ _; exact Nat.le_of_eq rfl) (hb hby at_86) rfl e17 (by decide) (by decide) ?_
    rintro _ T18 L18 X18 ⟨hv18, Nq18, e18⟩
    have N18 := Fr.app N17 Nq18
    rw [show f9 (120 : Int32) = (120 : Int32) from by decide] at hv18
    subst hv18
    show OGo _ _ _ _ _ _ _ (T18.setTop (mkF m 89 #[.val (.int p0), .val (.int (1 : Int32)), .val (.ref w_X), .val (.ref w_X_WINS), .val (.ref w_X_WINS), .val (.ref w_lx), .unset] [(.int (120 : Int32)), (.int (120 : Int32))]))
    refine OGo.step (F' := T18.setTop (mkF m 95 #[.val (.int p0), .val (.int (1 : Int32)), .val (.ref w_X), .val (.ref w_X_WINS), .val (.ref w_X_WINS), .val (.ref w_lx), .unset] [(.ref w_X)])) (fun t kt => ?_) ?_
    · show Steps p.tables e below (T18.setTop (mkF m 89 #[.val (.int p0), .val (.int (1 : Int32)), .val (.ref w_X), .val (.ref w_X_WINS), .val (.ref w_X_WINS), .val (.ref w_lx), .unset] [(.int (120 : Int32)), (.int (120 : Int32))])) t
      refine XS.icmpYes X18.here hx rfl (pc0 := 89) (pc' := 94) rfl (hb hby at_89) rfl (teq (by decide : (120 : Int32) = (120 : Int32))).1 (by decide) (by decide) ?_
      show Steps p.tables e below (T18.setTop (mkF m 94 #[.val (.int p0), .val (.int (1 : Int32)), .val (.ref w_X), .val (.ref w_X_WINS), .val (.ref w_X_WINS), .val (.ref w_lx), .unset] [])) t
      refine XS.aloadN X18.here hx rfl (hb hby at_94) rfl rfl ?_
      exact kt
    refine OGo.callV X18 hx hZ (y := (⟨"com/example/trigrid/trigrid/Mark", "opponent", "()Lcom/example/trigrid/trigrid/Mark;"⟩ : MethodName)) (z := (⟨"com/example/trigrid/trigrid/Mark", "opponent", "()Lcom/example/trigrid/trigrid/Mark;"⟩ : MethodName)) hown (own_wd hw 61 rfl) (own_wd hw 62 rfl) (notFace_of_selects (args := #[]) (mvT hZ (own_wd hw 64 rfl))) (own_wd hw 64 rfl) (own_wd hw 63 rfl) (own_wd hw 1 rfl) (own_wd hw 65 rfl) (by decide) (rm10 l Z az hw [] w_X w_X w_O h0 n0 Z0 S_Mark_X S_Mark_O) (W := 0) (by decide) (by decide) E_w_X (g := (mkF m 95 #[.val (.int p0), .val (.int (1 : Int32)), .val (.ref w_X), .val (.ref w_X_WINS), .val (.ref w_X_WINS), .val (.ref w_lx), .unset] [(.ref w_X)])) rfl (by rw [hml]; rfl) (argsL := []) (rest := []) (lenOf pd_0_5 rfl) rfl (by show 2 * 0 + _ ≤ _; exact Nat.le_of_eq rfl) (hb hby at_95) rfl e18 (by decide) (by decide) ?_
    rintro _ T19 L19 X19 ⟨hv19, Nq19, e19⟩
    have N19 := Fr.app N18 Nq19
    rw [show f10 w_X w_X w_O = w_O from if_pos rfl] at hv19
    subst hv19
    show OGo _ _ _ _ _ _ _ (T19.setTop (mkF m 98 #[.val (.int p0), .val (.int (1 : Int32)), .val (.ref w_X), .val (.ref w_X_WINS), .val (.ref w_X_WINS), .val (.ref w_lx), .unset] [(.ref w_O)]))
    refine OGo.callS X19 hx hZ (y := (⟨"com/example/trigrid/trigrid/Value", "winFor", "(Lcom/example/trigrid/trigrid/Mark;)Lcom/example/trigrid/trigrid/Value;"⟩ : MethodName)) hown (own_wd hw 6 rfl) (own_wd hw 7 rfl) (own_wd hw 4 rfl) (own_wd hw 8 rfl) (by decide) (rm1 l Z az hw [] w_O w_X w_X_WINS w_O_WINS h0 n0 Z0 S_Mark_X S_Value_X_WINS S_Value_O_WINS) (W := 0) (by decide) (by decide) (g := (mkF m 98 #[.val (.int p0), .val (.int (1 : Int32)), .val (.ref w_X), .val (.ref w_X_WINS), .val (.ref w_X_WINS), .val (.ref w_lx), .unset] [(.ref w_O)])) rfl (by rw [hml]; rfl) (argsL := [(.ref w_O)]) (rest := []) (lenOf pd_0_0 rfl) rfl (by show 2 * 0 + _ ≤ _; exact Nat.le_of_eq rfl) (hb hby at_98) rfl e19 (by decide) (by decide) ?_
    rintro _ T20 L20 X20 ⟨hv20, Nq20, e20⟩
    have N20 := Fr.app N19 Nq20
    rw [show f1 w_O w_X w_X_WINS w_O_WINS = w_O_WINS from if_neg neOX] at hv20
    subst hv20
    show OGo _ _ _ _ _ _ _ (T20.setTop (mkF m 101 #[.val (.int p0), .val (.int (1 : Int32)), .val (.ref w_X), .val (.ref w_X_WINS), .val (.ref w_X_WINS), .val (.ref w_lx), .unset] [(.ref w_O_WINS)]))
    refine OGo.step (F' := T20.setTop (mkF m 115 #[.val (.int p0), .val (.int (1 : Int32)), .val (.ref w_X), .val (.ref w_X_WINS), .val (.ref w_X_WINS), .val (.ref w_lx), .val (.ref w_O_WINS)] [(.int (1 : Int32))])) (fun t kt => ?_) ?_
    · show Steps p.tables e below (T20.setTop (mkF m 101 #[.val (.int p0), .val (.int (1 : Int32)), .val (.ref w_X), .val (.ref w_X_WINS), .val (.ref w_X_WINS), .val (.ref w_lx), .unset] [(.ref w_O_WINS)])) t
      refine XS.astore X20.here hx rfl (hb hby at_101) rfl rfl (l' := #[.val (.int p0), .val (.int (1 : Int32)), .val (.ref w_X), .val (.ref w_X_WINS), .val (.ref w_X_WINS), .val (.ref w_lx), .val (.ref w_O_WINS)]) rfl ?_
      show Steps p.tables e below (T20.setTop (mkF m 103 #[.val (.int p0), .val (.int (1 : Int32)), .val (.ref w_X), .val (.ref w_X_WINS), .val (.ref w_X_WINS), .val (.ref w_lx), .val (.ref w_O_WINS)] [])) t
      refine XS.aload X20.here hx rfl (hb hby at_103) rfl rfl ?_
      show Steps p.tables e below (T20.setTop (mkF m 105 #[.val (.int p0), .val (.int (1 : Int32)), .val (.ref w_X), .val (.ref w_X_WINS), .val (.ref w_X_WINS), .val (.ref w_lx), .val (.ref w_O_WINS)] [(.ref w_O_WINS)])) t
      refine XS.aload X20.here hx rfl (hb hby at_105) rfl rfl ?_
      show Steps p.tables e below (T20.setTop (mkF m 107 #[.val (.int p0), .val (.int (1 : Int32)), .val (.ref w_X), .val (.ref w_X_WINS), .val (.ref w_X_WINS), .val (.ref w_lx), .val (.ref w_O_WINS)] [(.ref w_X_WINS), (.ref w_O_WINS)])) t
      refine Jvm.RoadKit.acmp (g := (mkF m 107 #[.val (.int p0), .val (.int (1 : Int32)), .val (.ref w_X), .val (.ref w_X_WINS), .val (.ref w_X_WINS), .val (.ref w_lx), .val (.ref w_O_WINS)] [(.ref w_X_WINS), (.ref w_O_WINS)])) X20 hx rfl rfl rfl (pc0 := 107) (pc' := 110) (same := false) rfl (hb hby at_107) rfl (decide_eq_false fun q => (Ne.symm neW) (Value.ref.inj q)) (by decide) (by decide) ?_
      show Steps p.tables e below (T20.setTop (mkF m 110 #[.val (.int p0), .val (.int (1 : Int32)), .val (.ref w_X), .val (.ref w_X_WINS), .val (.ref w_X_WINS), .val (.ref w_lx), .val (.ref w_O_WINS)] [])) t
      refine XS.iconst X20.here hx rfl (hb hby at_110) ?_
      show Steps p.tables e below (T20.setTop (mkF m 111 #[.val (.int p0), .val (.int (1 : Int32)), .val (.ref w_X), .val (.ref w_X_WINS), .val (.ref w_X_WINS), .val (.ref w_lx), .val (.ref w_O_WINS)] [(.int (1 : Int32))])) t
      refine XS.goto X20.here hx rfl (pc0 := 111) (pc' := 115) rfl (hb hby at_111) (by decide) (by decide) ?_
      exact kt
    refine OGo.retZ X20 hx hlk (t := .boolean) (z' := (1 : Int32)) hret (by simp) (hb hby at_115) rfl ?_ (by decide) (by decide)
    exact ⟨(by rw [f0, if_neg hc3]), N20, e20⟩
theorem own_law (a : Int32) : f0 a = 1 := by
  unfold f0
  repeat' split
  all_goals rfl
theorem own_nz {args : Array Value} {Z : State} {t : Term} {x : Int32} (ev : t.eval args Z none [] Z = some (.int x)) (q : (Jvm.Cond.not (Jvm.Cond.eq t (Term.int (0 : Int32)))).before args Z = true) : ¬ (x = (0 : Int32)) := by
  have e2 : (Term.int (0 : Int32)).eval args Z none [] Z = some (.int 0) := rfl
  rw [Cond.before_iff] at q
  simp only [Cond.value, ev, e2] at q
  intro h; subst h; simp at q
set_option maxRecDepth 65536 in
set_option maxHeartbeats 40000000 in
theorem comes_1 {Post : Tables → Env → Array Value → State → Outcome → State → Prop} (hpost : ∀ tb e args s v u, (limb_1_1.after args s (.returned v) u = true ∧ limb_1_2.after args s (.returned v) u = true ∧ True) → FrameEnd s (.returned v) u (Jvm.fieldLocs frame_1_writes args s ++ Jvm.arrayLocs frame_1_arrays args s ++ Jvm.staticLocs frame_1_statics s) 0 0 → Post tb e args s (.returned v) u) :
    ArmFor flags0 classFile x code maxLocals ret World_1 tables_1 room_1 Calls_1 rest_1 Pre_1 Post := by
  intro l hfl _ _ p e ha hc hk s m args below hf hA hF happ hP
  obtain ⟨hcalls, hrest, hpre⟩ := hP
  obtain ⟨-, -, -, hnamed, -, -, -, hat⟩ := (Spec.applies_iff hf).mp happ
  obtain ⟨hg, hn⟩ := and_e (Cond.before_iff.mp (show (Jvm.Cond.and given_1 narrow_1).before args s = true from hpre))
  obtain ⟨gc, gr0⟩ := and_e hg
  have ga0 := gr0
  obtain ⟨w0, rfl⟩ : ∃ w0 : Value, args = #[w0] := by
    have hs : args.size = 1 := by simpa [Cond.value, given_1] using gc
    obtain ⟨L⟩ := args
    match L, hs with
    | [w0], _ => exact ⟨w0, rfl⟩
  have hw := fun d (hd : d ∈ tables_1) => atoms_spec (ws := Jvm.Cond.code x code maxLocals ret :: tables_1) hat d (List.mem_cons_of_mem _ hd)
  have hfit : Fit s := fun {y c} hc i hi => by
    obtain ⟨ha, rfl⟩ := Array.getElem?_eq_some_iff.mp hc
    have q := List.all_eq_true.mp ((Array.all_eq_true_iff_forall_mem.mp hF) _ (Array.getElem_mem ha)) i (List.mem_range.mpr hi)
    simpa [Array.getElem?_eq_getElem hi] using q
  obtain ⟨hsets, hown0⟩ := atoms_of _ (rest_1_c_eq ▸ (show rest_1_c.before _ s = true from hrest))
  obtain ⟨i0, ei0⟩ := is_v ga0
  obtain rfl : w0 = (.int i0) := Option.some.inj ei0
  obtain ⟨nc0, nr0⟩ := and_e hn
  obtain ⟨nc1, nr1⟩ := and_e nr0
  obtain ⟨nc2, nr2⟩ := and_e nr1
  obtain ⟨nc3, nr3⟩ := and_e nr2
  obtain ⟨nc4, nr4⟩ := and_e nr3
  obtain ⟨nc5, nr5⟩ := and_e nr4
  obtain ⟨nc6, nr6⟩ := and_e nr5
  obtain ⟨nc7, nr7⟩ := and_e nr6
  obtain ⟨nc8, nr8⟩ := and_e nr7
  obtain ⟨nc9, nr9⟩ := and_e nr8
  obtain ⟨nc10, nr10⟩ := and_e nr9
  obtain ⟨nc11, nr11⟩ := and_e nr10
  obtain ⟨nc12, nr12⟩ := and_e nr11
  obtain ⟨nc13, nr13⟩ := and_e nr12
  obtain ⟨nc14, nr14⟩ := and_e nr13
  obtain ⟨nc15, nr15⟩ := and_e nr14
  obtain ⟨nc16, nr16⟩ := and_e nr15
  obtain ⟨nc17, nr17⟩ := and_e nr16
  obtain ⟨nc18, nr18⟩ := and_e nr17
  obtain ⟨nc19, nr19⟩ := and_e nr18
  obtain ⟨nc20, nr20⟩ := and_e nr19
  obtain ⟨nc21, nr21⟩ := and_e nr20
  obtain ⟨nc22, nr22⟩ := and_e nr21
  obtain ⟨nc23, nr23⟩ := and_e nr22
  obtain ⟨nc24, nr24⟩ := and_e nr23
  obtain ⟨nc25, nr25⟩ := and_e nr24
  obtain ⟨nc26, nr26⟩ := and_e nr25
  obtain ⟨nc27, nr27⟩ := and_e nr26
  obtain ⟨nc28, nr28⟩ := and_e nr27
  obtain ⟨nc29, nr29⟩ := and_e nr28
  obtain ⟨nc30, nr30⟩ := and_e nr29
  obtain ⟨nc31, nr31⟩ := and_e nr30
  obtain ⟨nc32, nr32⟩ := and_e nr31
  obtain ⟨nc33, nr33⟩ := and_e nr32
  obtain ⟨nc34, nr34⟩ := and_e nr33
  obtain ⟨nc35, nr35⟩ := and_e nr34
  obtain ⟨nc36, nr36⟩ := and_e nr35
  obtain ⟨nc37, nr37⟩ := and_e nr36
  obtain ⟨nc38, nr38⟩ := and_e nr37
  have nc39 := nr38
  obtain ⟨w_O, _, _, _, ev_w_O, -⟩ := Cond.exactly_spec (Cond.before_iff.mpr nc0)
  have S_Mark_O : Sta s s.heap "com/example/trigrid/trigrid/Mark" "O" "Lcom/example/trigrid/trigrid/Mark;" (.ref w_O) := Sta.start ev_w_O (Or.inr ⟨(own_wd hw 1 rfl), (own_wd hw 2 rfl)⟩)
  have E_w_O : Exa s s.heap w_O "com/example/trigrid/trigrid/Mark" := Exa.start ev_w_O nc0
  obtain ⟨w_O_WINS, _, _, _, ev_w_O_WINS, -⟩ := Cond.exactly_spec (Cond.before_iff.mpr nc1)
  have S_Value_O_WINS : Sta s s.heap "com/example/trigrid/trigrid/Value" "O_WINS" "Lcom/example/trigrid/trigrid/Value;" (.ref w_O_WINS) := Sta.start ev_w_O_WINS (Or.inr ⟨(own_wd hw 4 rfl), (own_wd hw 5 rfl)⟩)
  have E_w_O_WINS : Exa s s.heap w_O_WINS "com/example/trigrid/trigrid/Value" := Exa.start ev_w_O_WINS nc1
  obtain ⟨w_X, _, _, _, ev_w_X, -⟩ := Cond.exactly_spec (Cond.before_iff.mpr nc2)
  have S_Mark_X : Sta s s.heap "com/example/trigrid/trigrid/Mark" "X" "Lcom/example/trigrid/trigrid/Mark;" (.ref w_X) := Sta.start ev_w_X (Or.inr ⟨(own_wd hw 1 rfl), (own_wd hw 10 rfl)⟩)
  have E_w_X : Exa s s.heap w_X "com/example/trigrid/trigrid/Mark" := Exa.start ev_w_X nc2
  obtain ⟨w_DRAW, _, _, _, ev_w_DRAW, -⟩ := Cond.exactly_spec (Cond.before_iff.mpr nc5)
  have S_Value_DRAW : Sta s s.heap "com/example/trigrid/trigrid/Value" "DRAW" "Lcom/example/trigrid/trigrid/Value;" (.ref w_DRAW) := Sta.start ev_w_DRAW (Or.inr ⟨(own_wd hw 4 rfl), (own_wd hw 13 rfl)⟩)
  have E_w_DRAW : Exa s s.heap w_DRAW "com/example/trigrid/trigrid/Value" := Exa.start ev_w_DRAW nc5
  obtain ⟨w_X_WINS, _, _, _, ev_w_X_WINS, -⟩ := Cond.exactly_spec (Cond.before_iff.mpr nc13)
  have S_Value_X_WINS : Sta s s.heap "com/example/trigrid/trigrid/Value" "X_WINS" "Lcom/example/trigrid/trigrid/Value;" (.ref w_X_WINS) := Sta.start ev_w_X_WINS (Or.inr ⟨(own_wd hw 4 rfl), (own_wd hw 68 rfl)⟩)
  have E_w_X_WINS : Exa s s.heap w_X_WINS "com/example/trigrid/trigrid/Value" := Exa.start ev_w_X_WINS nc13
  have F_ordinal_w_O : Fld s s.heap w_O "java/lang/Enum" "ordinal" "I" (.int (1 : Int32)) := own_fld ev_w_O nc3
  have F_ordinal_w_X : Fld s s.heap w_X "java/lang/Enum" "ordinal" "I" (.int (0 : Int32)) := own_fld ev_w_X nc4
  have F_ordinal_w_O_WINS : Fld s s.heap w_O_WINS "java/lang/Enum" "ordinal" "I" (.int (1 : Int32)) := own_fld ev_w_O_WINS nc6
  have F_ordinal_w_DRAW : Fld s s.heap w_DRAW "java/lang/Enum" "ordinal" "I" (.int (2 : Int32)) := own_fld ev_w_DRAW nc7
  have F_symbol_w_O : Fld s s.heap w_O "com/example/trigrid/trigrid/Mark" "symbol" "C" (.int (111 : Int32)) := own_fld ev_w_O nc12
  have F_ordinal_w_X_WINS : Fld s s.heap w_X_WINS "java/lang/Enum" "ordinal" "I" (.int (0 : Int32)) := own_fld ev_w_X_WINS nc14
  have F_symbol_w_X : Fld s s.heap w_X "com/example/trigrid/trigrid/Mark" "symbol" "C" (.int (120 : Int32)) := own_fld ev_w_X nc19
  obtain ⟨w_lx, ev_w_lx⟩ := exa_v nc15
  have F_label_w_X_WINS : Fld s s.heap w_X_WINS "com/example/trigrid/trigrid/Value" "label" "Ljava/lang/String;" (.ref w_lx) := own_fldR ev_w_X_WINS ev_w_lx
  have E_w_lx : Exa s s.heap w_lx "java/lang/String" := Exa.start ev_w_lx nc15
  obtain ⟨w_vx, ev_w_vx⟩ := arr_v nc16
  have F_value_w_lx : Fld s s.heap w_lx "java/lang/String" "value" "[B" (.ref w_vx) := own_fldR ev_w_lx ev_w_vx
  have F_coder_w_lx : Fld s s.heap w_lx "java/lang/String" "coder" "B" (.int (0 : Int32)) := own_fld ev_w_lx nc18
  obtain ⟨cl_w_vx, A_w_vx⟩ := Arr.start ev_w_vx nc16
  have at_w_vx := A_w_vx.fin (Vm.Alike.refl _)
  obtain ⟨z1_w_vx, z2_w_vx⟩ := own_lenz ev_w_vx at_w_vx (own_eqi nc17)
  have V_w_vx : Arv s s.heap w_vx cl_w_vx.cls .byte (6 : Int32) [(.int (120 : Int32)), (.int (45 : Int32)), (.int (119 : Int32)), (.int (105 : Int32)), (.int (110 : Int32)), (.int (115 : Int32))] (.int (0 : Int32)) := Arv.start hfit A_w_vx z1_w_vx z2_w_vx (by decide) rfl ⟨own_el ev_w_vx at_w_vx (own_eqi nc34) (by decide) rfl, own_el ev_w_vx at_w_vx (own_eqi nc35) (by decide) rfl, own_el ev_w_vx at_w_vx (own_eqi nc36) (by decide) rfl, own_el ev_w_vx at_w_vx (own_eqi nc37) (by decide) rfl, own_el ev_w_vx at_w_vx (own_eqi nc38) (by decide) rfl, own_el ev_w_vx at_w_vx (own_eqi nc39) (by decide) rfl, trivial⟩
  obtain ⟨w_lo, ev_w_lo⟩ := exa_v nc8
  have F_label_w_O_WINS : Fld s s.heap w_O_WINS "com/example/trigrid/trigrid/Value" "label" "Ljava/lang/String;" (.ref w_lo) := own_fldR ev_w_O_WINS ev_w_lo
  have E_w_lo : Exa s s.heap w_lo "java/lang/String" := Exa.start ev_w_lo nc8
  obtain ⟨w_vo, ev_w_vo⟩ := arr_v nc9
  have F_value_w_lo : Fld s s.heap w_lo "java/lang/String" "value" "[B" (.ref w_vo) := own_fldR ev_w_lo ev_w_vo
  have F_coder_w_lo : Fld s s.heap w_lo "java/lang/String" "coder" "B" (.int (0 : Int32)) := own_fld ev_w_lo nc11
  obtain ⟨cl_w_vo, A_w_vo⟩ := Arr.start ev_w_vo nc9
  have at_w_vo := A_w_vo.fin (Vm.Alike.refl _)
  obtain ⟨z1_w_vo, z2_w_vo⟩ := own_lenz ev_w_vo at_w_vo (own_eqi nc10)
  have V_w_vo : Arv s s.heap w_vo cl_w_vo.cls .byte (6 : Int32) [(.int (111 : Int32)), (.int (45 : Int32)), (.int (119 : Int32)), (.int (105 : Int32)), (.int (110 : Int32)), (.int (115 : Int32))] (.int (0 : Int32)) := Arv.start hfit A_w_vo z1_w_vo z2_w_vo (by decide) rfl ⟨own_el ev_w_vo at_w_vo (own_eqi nc28) (by decide) rfl, own_el ev_w_vo at_w_vo (own_eqi nc29) (by decide) rfl, own_el ev_w_vo at_w_vo (own_eqi nc30) (by decide) rfl, own_el ev_w_vo at_w_vo (own_eqi nc31) (by decide) rfl, own_el ev_w_vo at_w_vo (own_eqi nc32) (by decide) rfl, own_el ev_w_vo at_w_vo (own_eqi nc33) (by decide) rfl, trivial⟩
  have neOX : w_O ≠ w_X := F_ordinal_w_O.ne F_ordinal_w_X (by decide)
  have neXD : w_X_WINS ≠ w_DRAW := F_ordinal_w_X_WINS.ne F_ordinal_w_DRAW (by decide)
  have neOD : w_O_WINS ≠ w_DRAW := F_ordinal_w_O_WINS.ne F_ordinal_w_DRAW (by decide)
  have neW : w_X_WINS ≠ w_O_WINS := F_ordinal_w_X_WINS.ne F_ordinal_w_O_WINS (by decide)
  have hs := fun (i : Nat) {d : Jvm.Cond} (q : jdkStatics_1[i]? = some d) => hsets d (List.mem_of_getElem? q)
  obtain ⟨w_COMPACT_STRINGS, evC⟩ := is_v (Cond.before_iff.mp (hs 1 rfl))
  have S_String_COMPACT_STRINGS : Sta s s.heap "java/lang/String" "COMPACT_STRINGS" "Z" (.int w_COMPACT_STRINGS) := Sta.start evC (Or.inl (hs 0 rfl))
  have hC : ¬ (w_COMPACT_STRINGS = (0 : Int32)) := own_nz evC (hs 2 rfl)
  obtain ⟨w_SIOOBE_FORMATTER, evS, hrS⟩ := isR_v (Cond.before_iff.mp (hs 8 rfl))
  have S_Preconditions_SIOOBE_FORMATTER : Sta s s.heap "jdk/internal/util/Preconditions" "SIOOBE_FORMATTER" "Ljava/util/function/BiFunction;" w_SIOOBE_FORMATTER := Sta.start evS (Or.inl (hs 7 rfl))
  have hcS : w_SIOOBE_FORMATTER.category = 1 := by rcases ref_cases hrS with rfl | ⟨a, rfl⟩ <;> rfl
  obtain ⟨n, o, h1, h2, h3, _, L, rfl, ⟨hv, N, -⟩, hq⟩ := rm0 l s _ hw tables_1 i0 w_X w_O w_X_WINS w_O_WINS w_DRAW w_lx w_lo w_vx w_vo cl_w_vx.cls cl_w_vo.cls w_SIOOBE_FORMATTER w_COMPACT_STRINGS s.heap s.heap.size (Nat.le_refl _) F_label_w_X_WINS E_w_lx F_value_w_lx F_coder_w_lx V_w_vx F_symbol_w_X F_label_w_O_WINS E_w_lo F_value_w_lo F_coder_w_lo V_w_vo F_symbol_w_O neOX neXD neOD neW hcS hC S_Mark_O S_Value_O_WINS S_Mark_X S_Value_X_WINS S_Value_DRAW E_w_O_WINS S_String_COMPACT_STRINGS S_Preconditions_SIOOBE_FORMATTER E_w_O E_w_X_WINS E_w_X p e ha hc hk s m _ below hf ((Spec.applies_iff_loose hf).mp happ).1 ⟨rfl, State.Warmed39.refl s, rfl⟩ trivial
  rw [own_law] at hv
  subst hv
  refine ⟨n, _, h1, h2, h3, hpost _ _ _ _ _ _ ⟨Cond.after_iff.mpr rfl, Cond.after_iff.mpr (eq_i res_at (Term.int_eval (1)) rfl), trivial⟩ ⟨hq.1, hq.2.1, (hq.2.2.sift fun y hy => Or.inr (N y hy)).mono (by decide) (by decide)⟩⟩
theorem main_1_1 : Claimed_1_1 := comes_1 fun _ _ _ _ _ _ h hF => ⟨h.1, hF⟩
theorem main_1_2 : Claimed_1_2 := comes_1 fun _ _ _ _ _ _ h hF => ⟨h.2.1, hF⟩
end Jvm.Pilot.@@N@@
namespace Jvm.Pilot.@@N@@
open Jvm Jvm.ClassFile Sem Op Lib Jvm.Free Jvm.Stand Jvm.Pilot.@@N@@.Jvm.D
/-! MADE BY PROGRAM (witnessworld.py) out of the Statement's table words and the real class files: 19 classes; the members and pool entries that the words name. The judged class is class 1, her method 1. -/
namespace start1
open Jvm.ClassFile
def u (s : String) : CpInfo := .utf8 (stringToUtf16 s)
/-- a pool by its gaps: so many unusable entries, then the entry; so many at the end -/
def gap : Nat → List CpInfo → List CpInfo
  | 0, r => r
  | n + 1, r => .unusable :: gap n r
def poolList (es : List (Nat × CpInfo)) (last : Nat) : List CpInfo := es.foldr (fun e r => gap e.1 (e.2 :: r)) (gap last [])
def pool (es : List (Nat × CpInfo)) (last : Nat) : Array CpInfo := ⟨poolList es last⟩
def fileOf (pool : Array CpInfo) (this : Nat) (attrs : Array Attribute := #[]) (ms : Array MethodInfo := #[]) (fl : Nat := 33) (sup : Nat := 0) (ifs : Array Nat := #[]) (fds : Array FieldInfo := #[]) : ClassFile where
  minorVersion := 0
  majorVersion := 65
  constantPool := pool
  accessFlags := fl
  thisClass := this
  superClass := sup
  interfaces := ifs
  fields := fds
  methods := ms
  attributes := attrs
def plain (name : String) (sup : Option ClassId) : Class where
  name := name
  kind := .ordinary
  loader := none
  accessFlags := 33
  super := sup
  interfaces := #[]
  cf := none
  fields := #[]
  methods := #[]
  instanceTypes := #[]
  staticTypes := #[]
  resolved := #[]
  callSites := []
  init := .initialized
  statics := none
  mirror := none

def pool0 : Array CpInfo := pool [(5, u "<init>"), (0, u "()V"), (1, .class_ 10), (1, u "java/lang/Object")] 113

def k0m0 : Method := { name := "<init>", desc := "()V", sig := { parameters := [], returnType := none }, accessFlags := 1, code := none }
/-- java/lang/Object -/
def k0 : Class := { plain "java/lang/Object" none with
  accessFlags := 33
  interfaces := #[]
  cf := some (fileOf pool0 8 #[] #[{ accessFlags := 1, nameIndex := 5, descriptorIndex := 6, attributes := #[] }] 33 0 #[] #[])
  fields := #[]
  methods := #[k0m0]
  instanceTypes := #[]
  staticTypes := #[]
  resolved := Array.replicate 124 none
  statics := none }

def pool1 : Array CpInfo := pool [(2, .class_ 4), (1, u "java/lang/Object"), (0, u "<init>"), (0, u "()V"), (0, .fieldref 8 9), (0, .class_ 10), (0, .nameAndType 11 12), (0, u "com/example/trigrid/trigrid/Mark"), (0, u "X"), (0, u "Lcom/example/trigrid/trigrid/Mark;"), (0, .fieldref 8 14), (0, .nameAndType 15 12), (0, u "O"), (0, .fieldref 17 18), (0, .class_ 19), (0, .nameAndType 20 21), (0, u "com/example/trigrid/trigrid/Value"), (0, u "X_WINS"), (0, u "Lcom/example/trigrid/trigrid/Value;"), (0, .fieldref 17 23), (0, .nameAndType 24 21), (0, u "O_WINS"), (0, .methodref 17 26), (0, .nameAndType 27 28), (0, u "winFor"), (0, u "(Lcom/example/trigrid/trigrid/Mark;)Lcom/example/trigrid/trigrid/Value;"), (0, .fieldref 17 30), (0, .nameAndType 31 21), (0, u "DRAW"), (0, .methodref 17 33), (0, .nameAndType 34 35), (0, u "label"), (0, u "()Ljava/lang/String;"), (0, .methodref 37 38), (0, .class_ 39), (0, .nameAndType 40 41), (0, u "java/lang/String"), (0, u "isEmpty"), (0, u "()Z"), (0, .methodref 37 43), (0, .nameAndType 44 45), (0, u "charAt"), (0, u "(I)C"), (0, .methodref 8 47), (0, .nameAndType 48 49), (0, u "symbol"), (0, u "()C"), (0, .methodref 8 51), (0, .nameAndType 52 53), (0, u "opponent"), (0, u "()Lcom/example/trigrid/trigrid/Mark;"), (0, .class_ 55), (0, u "com/example/trigrid/trigrid/ValueWinForPinLaw"), (2, u "law"), (0, u "(I)Z")] 3

def k1m0 : Method := { name := "<init>", desc := "()V", sig := { parameters := [], returnType := none }, accessFlags := 2, code := none }
def k1c1 : Code := { maxStack := 2, maxLocals := 7, code := code, exceptionTable := #[], attributes := #[] }
def k1m1 : Method := { name := "law", desc := "(I)Z", sig := { parameters := [.int], returnType := some .boolean }, accessFlags := 9, code := some k1c1 }
/-- com/example/trigrid/trigrid/ValueWinForPinLaw -/
def k1 : Class := { plain "com/example/trigrid/trigrid/ValueWinForPinLaw" (some 0) with
  accessFlags := 49
  interfaces := #[]
  cf := some (fileOf pool1 54 #[] #[{ accessFlags := 2, nameIndex := 5, descriptorIndex := 6, attributes := #[] }, { accessFlags := 9, nameIndex := 58, descriptorIndex := 59, attributes := #[] }] 49 2 #[] #[])
  fields := #[]
  methods := #[k1m0, k1m1]
  instanceTypes := #[]
  staticTypes := #[]
  resolved := Array.replicate 63 none
  statics := none }

def pool2 : Array CpInfo := pool [(1, .class_ 2), (0, u "java/lang/constant/Constable"), (0, .class_ 4), (0, u "java/lang/Object")] 6

/-- java/lang/constant/Constable -/
def k2 : Class := { plain "java/lang/constant/Constable" (some 0) with
  accessFlags := 1537
  interfaces := #[]
  cf := some (fileOf pool2 1 #[] #[] 1537 3 #[] #[])
  fields := #[]
  methods := #[]
  instanceTypes := #[]
  staticTypes := #[]
  resolved := Array.replicate 11 none
  statics := none }

def pool3 : Array CpInfo := pool [(1, .class_ 2), (0, u "java/lang/Comparable"), (0, .class_ 4), (0, u "java/lang/Object")] 7

/-- java/lang/Comparable -/
def k3 : Class := { plain "java/lang/Comparable" (some 0) with
  accessFlags := 1537
  interfaces := #[]
  cf := some (fileOf pool3 1 #[] #[] 1537 3 #[] #[])
  fields := #[]
  methods := #[]
  instanceTypes := #[]
  staticTypes := #[]
  resolved := Array.replicate 12 none
  statics := none }

def pool4 : Array CpInfo := pool [(1, .class_ 2), (0, u "java/io/Serializable"), (0, .class_ 4), (0, u "java/lang/Object")] 2

/-- java/io/Serializable -/
def k4 : Class := { plain "java/io/Serializable" (some 0) with
  accessFlags := 1537
  interfaces := #[]
  cf := some (fileOf pool4 1 #[] #[] 1537 3 #[] #[])
  fields := #[]
  methods := #[]
  instanceTypes := #[]
  staticTypes := #[]
  resolved := Array.replicate 7 none
  statics := none }

def pool5 : Array CpInfo := pool [(2, .class_ 4), (1, u "java/lang/Enum"), (0, u "name"), (0, u "Ljava/lang/String;"), (2, u "ordinal"), (0, u "I"), (1, .class_ 14), (1, u "java/lang/Object"), (4, u "hash"), (86, .class_ 108), (1, u "java/lang/Enum$EnumDesc"), (2, .class_ 112), (0, u "java/lang/constant/Constable"), (0, .class_ 114), (0, u "java/lang/Comparable"), (0, .class_ 116), (0, u "java/io/Serializable")] 87

/-- java/lang/Enum -/
def k5 : Class := { plain "java/lang/Enum" (some 0) with
  accessFlags := 1057
  interfaces := #[2, 3, 4]
  cf := some (fileOf pool5 2 #[.nestMembers #[106]] #[] 1057 12 #[111, 113, 115] #[{ accessFlags := 18, nameIndex := 5, descriptorIndex := 6, attributes := #[] }, { accessFlags := 18, nameIndex := 9, descriptorIndex := 10, attributes := #[] }, { accessFlags := 2, nameIndex := 19, descriptorIndex := 10, attributes := #[] }])
  fields := #[{ name := "name", type := (.object "java/lang/String"), accessFlags := 18, slot := 0, constantValue := 0 }, { name := "ordinal", type := .int, accessFlags := 18, slot := 1, constantValue := 0 }, { name := "hash", type := .int, accessFlags := 2, slot := 2, constantValue := 0 }]
  methods := #[]
  instanceTypes := #[(.object "java/lang/String"), .int, .int]
  staticTypes := #[]
  resolved := Array.replicate 204 none
  statics := none }

def pool6 : Array CpInfo := pool [(1, .class_ 2), (0, u "com/example/trigrid/trigrid/Mark"), (0, .fieldref 1 4), (0, .nameAndType 5 6), (0, u "X"), (0, u "Lcom/example/trigrid/trigrid/Mark;"), (0, .fieldref 1 8), (0, .nameAndType 9 6), (0, u "O"), (2, u "$VALUES"), (0, u "[Lcom/example/trigrid/trigrid/Mark;"), (6, .class_ 22), (1, u "java/lang/Enum"), (6, .fieldref 1 30), (0, .nameAndType 31 32), (0, u "symbol"), (0, u "C"), (16, u "()C"), (0, u "opponent"), (0, u "()Lcom/example/trigrid/trigrid/Mark;")] 6

def k6c0 : Code := { maxStack := 1, maxLocals := 1, code := prog_7_method_4_code, exceptionTable := #[], attributes := #[] }
def k6m0 : Method := { name := "symbol", desc := "()C", sig := { parameters := [], returnType := some .char }, accessFlags := 1, code := some k6c0 }
def k6c1 : Code := { maxStack := 2, maxLocals := 1, code := prog_7_method_5_code, exceptionTable := #[], attributes := #[] }
def k6m1 : Method := { name := "opponent", desc := "()Lcom/example/trigrid/trigrid/Mark;", sig := { parameters := [], returnType := some (.object "com/example/trigrid/trigrid/Mark") }, accessFlags := 1, code := some k6c1 }
/-- com/example/trigrid/trigrid/Mark -/
def k6 : Class := { plain "com/example/trigrid/trigrid/Mark" (some 5) with
  accessFlags := 16433
  interfaces := #[]
  cf := some (fileOf pool6 1 #[] #[{ accessFlags := 1, nameIndex := 31, descriptorIndex := 49, attributes := #[] }, { accessFlags := 1, nameIndex := 50, descriptorIndex := 51, attributes := #[] }] 16433 20 #[] #[{ accessFlags := 16409, nameIndex := 5, descriptorIndex := 6, attributes := #[] }, { accessFlags := 16409, nameIndex := 9, descriptorIndex := 6, attributes := #[] }, { accessFlags := 18, nameIndex := 31, descriptorIndex := 32, attributes := #[] }, { accessFlags := 4122, nameIndex := 12, descriptorIndex := 13, attributes := #[] }])
  fields := #[{ name := "X", type := (.object "com/example/trigrid/trigrid/Mark"), accessFlags := 16409, slot := 0, constantValue := 0 }, { name := "O", type := (.object "com/example/trigrid/trigrid/Mark"), accessFlags := 16409, slot := 1, constantValue := 0 }, { name := "symbol", type := .char, accessFlags := 18, slot := 3, constantValue := 0 }, { name := "$VALUES", type := (.array (.object "com/example/trigrid/trigrid/Mark")), accessFlags := 4122, slot := 2, constantValue := 0 }]
  methods := #[k6m0, k6m1]
  instanceTypes := #[(.object "java/lang/String"), .int, .int, .char]
  staticTypes := #[(.object "com/example/trigrid/trigrid/Mark"), (.object "com/example/trigrid/trigrid/Mark"), (.array (.object "com/example/trigrid/trigrid/Mark"))]
  resolved := Array.replicate 58 none
  statics := some 0 }

def pool7 : Array CpInfo := pool [(1, .class_ 2), (0, u "com/example/trigrid/trigrid/Value"), (0, .fieldref 1 4), (0, .nameAndType 5 6), (0, u "X_WINS"), (0, u "Lcom/example/trigrid/trigrid/Value;"), (0, .fieldref 1 8), (0, .nameAndType 9 6), (0, u "O_WINS"), (2, u "DRAW"), (2, u "$VALUES"), (0, u "[Lcom/example/trigrid/trigrid/Value;"), (6, .class_ 25), (1, u "java/lang/Enum"), (6, .fieldref 1 33), (0, .nameAndType 34 35), (0, u "label"), (0, u "Ljava/lang/String;"), (2, u "winner"), (0, u "Lcom/example/trigrid/trigrid/Mark;"), (0, .fieldref 41 42), (0, .class_ 43), (0, .nameAndType 44 39), (0, u "com/example/trigrid/trigrid/Mark"), (0, u "X"), (32, u "winFor"), (0, u "(Lcom/example/trigrid/trigrid/Mark;)Lcom/example/trigrid/trigrid/Value;"), (1, u "()Ljava/lang/String;")] 7

def k7c0 : Code := { maxStack := 2, maxLocals := 1, code := prog_16_method_4_code, exceptionTable := #[], attributes := #[] }
def k7m0 : Method := { name := "winFor", desc := "(Lcom/example/trigrid/trigrid/Mark;)Lcom/example/trigrid/trigrid/Value;", sig := { parameters := [(.object "com/example/trigrid/trigrid/Mark")], returnType := some (.object "com/example/trigrid/trigrid/Value") }, accessFlags := 9, code := some k7c0 }
def k7c1 : Code := { maxStack := 1, maxLocals := 1, code := prog_16_method_5_code, exceptionTable := #[], attributes := #[] }
def k7m1 : Method := { name := "label", desc := "()Ljava/lang/String;", sig := { parameters := [], returnType := some (.object "java/lang/String") }, accessFlags := 1, code := some k7c1 }
/-- com/example/trigrid/trigrid/Value -/
def k7 : Class := { plain "com/example/trigrid/trigrid/Value" (some 5) with
  accessFlags := 16433
  interfaces := #[]
  cf := some (fileOf pool7 1 #[] #[{ accessFlags := 9, nameIndex := 77, descriptorIndex := 78, attributes := #[] }, { accessFlags := 1, nameIndex := 34, descriptorIndex := 80, attributes := #[] }] 16433 23 #[] #[{ accessFlags := 16409, nameIndex := 5, descriptorIndex := 6, attributes := #[] }, { accessFlags := 16409, nameIndex := 9, descriptorIndex := 6, attributes := #[] }, { accessFlags := 16409, nameIndex := 12, descriptorIndex := 6, attributes := #[] }, { accessFlags := 18, nameIndex := 34, descriptorIndex := 35, attributes := #[] }, { accessFlags := 18, nameIndex := 38, descriptorIndex := 39, attributes := #[] }, { accessFlags := 4122, nameIndex := 15, descriptorIndex := 16, attributes := #[] }])
  fields := #[{ name := "X_WINS", type := (.object "com/example/trigrid/trigrid/Value"), accessFlags := 16409, slot := 0, constantValue := 0 }, { name := "O_WINS", type := (.object "com/example/trigrid/trigrid/Value"), accessFlags := 16409, slot := 1, constantValue := 0 }, { name := "DRAW", type := (.object "com/example/trigrid/trigrid/Value"), accessFlags := 16409, slot := 2, constantValue := 0 }, { name := "label", type := (.object "java/lang/String"), accessFlags := 18, slot := 3, constantValue := 0 }, { name := "winner", type := (.object "com/example/trigrid/trigrid/Mark"), accessFlags := 18, slot := 4, constantValue := 0 }, { name := "$VALUES", type := (.array (.object "com/example/trigrid/trigrid/Value")), accessFlags := 4122, slot := 3, constantValue := 0 }]
  methods := #[k7m0, k7m1]
  instanceTypes := #[(.object "java/lang/String"), .int, .int, (.object "java/lang/String"), (.object "com/example/trigrid/trigrid/Mark")]
  staticTypes := #[(.object "com/example/trigrid/trigrid/Value"), (.object "com/example/trigrid/trigrid/Value"), (.object "com/example/trigrid/trigrid/Value"), (.array (.object "com/example/trigrid/trigrid/Value"))]
  resolved := Array.replicate 88 none
  statics := some 1 }

def pool8 : Array CpInfo := pool [(2, .class_ 4), (1, u "java/lang/CharSequence"), (42, .class_ 48), (0, u "java/lang/CharSequence$1CodePointIterator"), (10, .class_ 60), (0, u "java/lang/CharSequence$1CharIterator"), (5, .class_ 67), (0, u "java/lang/Object")] 63

/-- java/lang/CharSequence -/
def k8 : Class := { plain "java/lang/CharSequence" (some 0) with
  accessFlags := 1537
  interfaces := #[]
  cf := some (fileOf pool8 2 #[.nestMembers #[47, 59]] #[] 1537 66 #[] #[])
  fields := #[]
  methods := #[]
  instanceTypes := #[]
  staticTypes := #[]
  resolved := Array.replicate 131 none
  statics := none }

def pool9 : Array CpInfo := pool [(1, .class_ 2), (0, u "java/lang/constant/ConstantDesc"), (0, .class_ 4), (0, u "java/lang/Object")] 32

/-- java/lang/constant/ConstantDesc -/
def k9 : Class := { plain "java/lang/constant/ConstantDesc" (some 0) with
  accessFlags := 1537
  interfaces := #[]
  cf := some (fileOf pool9 1 #[] #[] 1537 3 #[] #[])
  fields := #[]
  methods := #[]
  instanceTypes := #[]
  staticTypes := #[]
  resolved := Array.replicate 37 none
  statics := none }

def pool10 : Array CpInfo := pool [(2, .class_ 4), (1, u "java/lang/Object"), (0, u "<init>"), (0, u "()V"), (2, .fieldref 10 11), (0, .class_ 12), (0, .nameAndType 13 14), (0, u "java/lang/String"), (0, u "value"), (0, u "[B"), (0, .fieldref 10 16), (0, .nameAndType 17 18), (0, u "coder"), (0, u "B"), (2, u "hash"), (0, u "I"), (2, u "hashIsZero"), (0, u "Z"), (11, .fieldref 10 39), (0, .nameAndType 40 26), (0, u "COMPACT_STRINGS"), (66, .class_ 109), (1, u "java/lang/StringLatin1"), (32, u "()Z"), (220, u "([BI)C"), (27, u "(II)V"), (35, u "(I)C"), (64, .methodref 10 493), (0, .nameAndType 494 142), (0, u "isLatin1"), (0, .methodref 107 496), (0, .nameAndType 497 363), (0, u "charAt"), (3, u "checkIndex"), (73, .class_ 576), (0, u "java/lang/CharSequence"), (22, u "CASE_INSENSITIVE_ORDER"), (0, u "Ljava/util/Comparator;"), (91, u "isEmpty"), (360, .fieldref 1054 1055), (0, .class_ 1056), (0, .nameAndType 1057 1058), (0, u "jdk/internal/util/Preconditions"), (0, u "SIOOBE_FORMATTER"), (0, u "Ljava/util/function/BiFunction;"), (0, .methodref 1054 1060), (0, .nameAndType 501 1061), (0, u "(IILjava/util/function/BiFunction;)I"), (39, u "serialPersistentFields"), (0, u "[Ljava/io/ObjectStreamField;"), (0, .class_ 1104), (0, u "java/lang/String$CaseInsensitiveComparator"), (1, .class_ 1107), (0, u "java/io/Serializable"), (0, .class_ 1109), (0, u "java/lang/Comparable"), (0, .class_ 1111), (0, u "java/lang/constant/Constable"), (0, .class_ 1113), (0, u "java/lang/constant/ConstantDesc"), (2, u "serialVersionUID"), (0, u "J"), (3, u "REPL"), (0, u "C"), (2, u "LATIN1"), (1, u "UTF16")] 323

def k10m0 : Method := { name := "<init>", desc := "()V", sig := { parameters := [], returnType := none }, accessFlags := 1, code := none }
def k10c1 : Code := { maxStack := 1, maxLocals := 1, code := jdk_42_method_55_code, exceptionTable := #[], attributes := #[] }
def k10m1 : Method := { name := "isEmpty", desc := "()Z", sig := { parameters := [], returnType := some .boolean }, accessFlags := 1, code := some k10c1 }
def k10c2 : Code := { maxStack := 2, maxLocals := 2, code := jdk_42_method_56_code, exceptionTable := #[], attributes := #[] }
def k10m2 : Method := { name := "charAt", desc := "(I)C", sig := { parameters := [.int], returnType := some .char }, accessFlags := 1, code := some k10c2 }
def k10c3 : Code := { maxStack := 1, maxLocals := 1, code := jdk_42_method_154_code, exceptionTable := #[], attributes := #[] }
def k10m3 : Method := { name := "isLatin1", desc := "()Z", sig := { parameters := [], returnType := some .boolean }, accessFlags := 0, code := some k10c3 }
def k10c4 : Code := { maxStack := 3, maxLocals := 2, code := jdk_42_method_155_code, exceptionTable := #[], attributes := #[] }
def k10m4 : Method := { name := "checkIndex", desc := "(II)V", sig := { parameters := [.int, .int], returnType := none }, accessFlags := 8, code := some k10c4 }
/-- java/lang/String -/
def k10 : Class := { plain "java/lang/String" (some 0) with
  accessFlags := 49
  interfaces := #[4, 3, 8, 2, 9]
  cf := some (fileOf pool10 10 #[.nestMembers #[1103]] #[{ accessFlags := 1, nameIndex := 5, descriptorIndex := 6, attributes := #[] }, { accessFlags := 1, nameIndex := 692, descriptorIndex := 142, attributes := #[] }, { accessFlags := 1, nameIndex := 497, descriptorIndex := 427, attributes := #[] }, { accessFlags := 0, nameIndex := 494, descriptorIndex := 142, attributes := #[] }, { accessFlags := 8, nameIndex := 501, descriptorIndex := 391, attributes := #[] }] 49 2 #[1106, 1108, 575, 1110, 1112] #[{ accessFlags := 18, nameIndex := 13, descriptorIndex := 14, attributes := #[] }, { accessFlags := 18, nameIndex := 17, descriptorIndex := 18, attributes := #[] }, { accessFlags := 2, nameIndex := 21, descriptorIndex := 22, attributes := #[] }, { accessFlags := 2, nameIndex := 25, descriptorIndex := 26, attributes := #[] }, { accessFlags := 26, nameIndex := 1116, descriptorIndex := 1117, attributes := #[] }, { accessFlags := 24, nameIndex := 40, descriptorIndex := 26, attributes := #[] }, { accessFlags := 26, nameIndex := 1101, descriptorIndex := 1102, attributes := #[] }, { accessFlags := 26, nameIndex := 1121, descriptorIndex := 1122, attributes := #[] }, { accessFlags := 25, nameIndex := 599, descriptorIndex := 600, attributes := #[] }, { accessFlags := 24, nameIndex := 1125, descriptorIndex := 18, attributes := #[] }, { accessFlags := 24, nameIndex := 1127, descriptorIndex := 18, attributes := #[] }])
  fields := #[{ name := "value", type := (.array .byte), accessFlags := 18, slot := 0, constantValue := 0 }, { name := "coder", type := .byte, accessFlags := 18, slot := 1, constantValue := 0 }, { name := "hash", type := .int, accessFlags := 2, slot := 2, constantValue := 0 }, { name := "hashIsZero", type := .boolean, accessFlags := 2, slot := 3, constantValue := 0 }, { name := "serialVersionUID", type := .long, accessFlags := 26, slot := 0, constantValue := 0 }, { name := "COMPACT_STRINGS", type := .boolean, accessFlags := 24, slot := 1, constantValue := 0 }, { name := "serialPersistentFields", type := (.array (.object "java/io/ObjectStreamField")), accessFlags := 26, slot := 2, constantValue := 0 }, { name := "REPL", type := .char, accessFlags := 26, slot := 3, constantValue := 0 }, { name := "CASE_INSENSITIVE_ORDER", type := (.object "java/util/Comparator"), accessFlags := 25, slot := 4, constantValue := 0 }, { name := "LATIN1", type := .byte, accessFlags := 24, slot := 5, constantValue := 0 }, { name := "UTF16", type := .byte, accessFlags := 24, slot := 6, constantValue := 0 }]
  methods := #[k10m0, k10m1, k10m2, k10m3, k10m4]
  instanceTypes := #[(.array .byte), .byte, .int, .boolean]
  staticTypes := #[.long, .boolean, (.array (.object "java/io/ObjectStreamField")), .char, (.object "java/util/Comparator"), .byte, .byte]
  resolved := Array.replicate 1451 none
  statics := some 2 }

def pool11 : Array CpInfo := pool [(1, .class_ 2), (0, u "java/lang/String"), (1, .class_ 6), (1, u "java/lang/Object"), (0, u "<init>"), (0, u "()V"), (0, .methodref 1 10), (0, .nameAndType 11 12), (0, u "checkIndex"), (0, u "(II)V"), (1, .class_ 16), (1, u "java/lang/StringLatin1"), (36, u "([BI)C"), (67, u "$assertionsDisabled"), (0, u "Z"), (98, .class_ 223), (1, u "java/lang/StringLatin1$LinesSpliterator"), (28, u "charAt"), (137, .class_ 391), (0, u "java/lang/StringLatin1$CharsSpliterator")] 3

def k11m0 : Method := { name := "<init>", desc := "()V", sig := { parameters := [], returnType := none }, accessFlags := 0, code := none }
def k11c1 : Code := { maxStack := 2, maxLocals := 2, code := jdk_43_method_2_code, exceptionTable := #[], attributes := #[] }
def k11m1 : Method := { name := "charAt", desc := "([BI)C", sig := { parameters := [(.array .byte), .int], returnType := some .char }, accessFlags := 9, code := some k11c1 }
/-- java/lang/StringLatin1 -/
def k11 : Class := { plain "java/lang/StringLatin1" (some 0) with
  accessFlags := 48
  interfaces := #[]
  cf := some (fileOf pool11 14 #[.nestMembers #[390, 221]] #[{ accessFlags := 0, nameIndex := 7, descriptorIndex := 8, attributes := #[] }, { accessFlags := 9, nameIndex := 252, descriptorIndex := 53, attributes := #[] }] 48 4 #[] #[{ accessFlags := 4120, nameIndex := 121, descriptorIndex := 122, attributes := #[] }])
  fields := #[{ name := "$assertionsDisabled", type := .boolean, accessFlags := 4120, slot := 0, constantValue := 0 }]
  methods := #[k11m0, k11m1]
  instanceTypes := #[]
  staticTypes := #[.boolean]
  resolved := Array.replicate 395 none
  statics := none }

def pool12 : Array CpInfo := pool [(2, .class_ 4), (1, u "java/lang/Object"), (0, u "<init>"), (0, u "()V"), (17, .class_ 26), (1, u "jdk/internal/util/Preconditions"), (6, u "checkIndex"), (21, .class_ 56), (0, u "jdk/internal/util/Preconditions$4"), (57, .class_ 115), (0, u "jdk/internal/util/Preconditions$1"), (7, u "SIOOBE_FORMATTER"), (0, u "Ljava/util/function/BiFunction;"), (0, .class_ 126), (0, u "jdk/internal/util/Preconditions$2"), (3, u "AIOOBE_FORMATTER"), (0, .class_ 132), (0, u "jdk/internal/util/Preconditions$3"), (3, u "IOOBE_FORMATTER"), (41, u "(IILjava/util/function/BiFunction;)I")] 15

def k12m0 : Method := { name := "<init>", desc := "()V", sig := { parameters := [], returnType := none }, accessFlags := 1, code := none }
def k12c1 : Code := { maxStack := 3, maxLocals := 3, code := jdk_41_method_11_code, exceptionTable := #[], attributes := #[] }
def k12m1 : Method := { name := "checkIndex", desc := "(IILjava/util/function/BiFunction;)I", sig := { parameters := [.int, .int, (.object "java/util/function/BiFunction")], returnType := some .int }, accessFlags := 9, code := some k12c1 }
/-- jdk/internal/util/Preconditions -/
def k12 : Class := { plain "jdk/internal/util/Preconditions" (some 0) with
  accessFlags := 33
  interfaces := #[]
  cf := some (fileOf pool12 24 #[.nestMembers #[55, 131, 125, 114]] #[{ accessFlags := 1, nameIndex := 5, descriptorIndex := 6, attributes := #[] }, { accessFlags := 9, nameIndex := 33, descriptorIndex := 178, attributes := #[] }] 33 2 #[] #[{ accessFlags := 25, nameIndex := 123, descriptorIndex := 124, attributes := #[] }, { accessFlags := 25, nameIndex := 130, descriptorIndex := 124, attributes := #[] }, { accessFlags := 25, nameIndex := 136, descriptorIndex := 124, attributes := #[] }])
  fields := #[{ name := "SIOOBE_FORMATTER", type := (.object "java/util/function/BiFunction"), accessFlags := 25, slot := 0, constantValue := 0 }, { name := "AIOOBE_FORMATTER", type := (.object "java/util/function/BiFunction"), accessFlags := 25, slot := 1, constantValue := 0 }, { name := "IOOBE_FORMATTER", type := (.object "java/util/function/BiFunction"), accessFlags := 25, slot := 2, constantValue := 0 }]
  methods := #[k12m0, k12m1]
  instanceTypes := #[]
  staticTypes := #[(.object "java/util/function/BiFunction"), (.object "java/util/function/BiFunction"), (.object "java/util/function/BiFunction")]
  resolved := Array.replicate 194 none
  statics := some 3 }

def pool13 : Array CpInfo := pool [(9, u "<init>"), (6, .class_ 18), (1, u "java/lang/Object"), (0, u "()V"), (1, .class_ 23), (1, u "jdk/internal/util/ArraysSupport"), (0, u "LOG2_ARRAY_LONG_INDEX_SCALE"), (0, u "I"), (2, u "U"), (0, u "Ljdk/internal/misc/Unsafe;"), (8, u "BIG_ENDIAN"), (0, u "Z"), (8, u "LOG2_BYTE_BIT_SIZE"), (4, u "LOG2_ARRAY_INT_INDEX_SCALE"), (54, u "JLA"), (0, u "Ljdk/internal/access/JavaLangAccess;"), (11, u "LOG2_ARRAY_BOOLEAN_INDEX_SCALE"), (9, u "LOG2_ARRAY_BYTE_INDEX_SCALE"), (5, u "LOG2_ARRAY_CHAR_INDEX_SCALE"), (5, u "LOG2_ARRAY_SHORT_INDEX_SCALE"), (18, u "LOG2_ARRAY_FLOAT_INDEX_SCALE"), (24, u "LOG2_ARRAY_DOUBLE_INDEX_SCALE"), (89, u "T_BOOLEAN"), (2, u "T_CHAR"), (1, u "T_FLOAT"), (1, u "T_DOUBLE"), (1, u "T_BYTE"), (1, u "T_SHORT"), (1, u "T_INT"), (1, u "T_LONG"), (1, u "SOFT_MAX_ARRAY_LENGTH")] 83

def k13m0 : Method := { name := "<init>", desc := "()V", sig := { parameters := [], returnType := none }, accessFlags := 2, code := none }
/-- jdk/internal/util/ArraysSupport -/
def k13 : Class := { plain "jdk/internal/util/ArraysSupport" (some 0) with
  accessFlags := 33
  interfaces := #[]
  cf := some (fileOf pool13 21 #[] #[{ accessFlags := 2, nameIndex := 9, descriptorIndex := 19, attributes := #[] }] 33 16 #[] #[{ accessFlags := 24, nameIndex := 28, descriptorIndex := 29, attributes := #[] }, { accessFlags := 26, nameIndex := 38, descriptorIndex := 39, attributes := #[] }, { accessFlags := 25, nameIndex := 121, descriptorIndex := 25, attributes := #[] }, { accessFlags := 25, nameIndex := 131, descriptorIndex := 25, attributes := #[] }, { accessFlags := 25, nameIndex := 137, descriptorIndex := 25, attributes := #[] }, { accessFlags := 25, nameIndex := 143, descriptorIndex := 25, attributes := #[] }, { accessFlags := 25, nameIndex := 53, descriptorIndex := 25, attributes := #[] }, { accessFlags := 25, nameIndex := 24, descriptorIndex := 25, attributes := #[] }, { accessFlags := 25, nameIndex := 162, descriptorIndex := 25, attributes := #[] }, { accessFlags := 25, nameIndex := 187, descriptorIndex := 25, attributes := #[] }, { accessFlags := 26, nameIndex := 48, descriptorIndex := 25, attributes := #[] }, { accessFlags := 25, nameIndex := 277, descriptorIndex := 25, attributes := #[] }, { accessFlags := 25, nameIndex := 280, descriptorIndex := 25, attributes := #[] }, { accessFlags := 25, nameIndex := 282, descriptorIndex := 25, attributes := #[] }, { accessFlags := 25, nameIndex := 284, descriptorIndex := 25, attributes := #[] }, { accessFlags := 25, nameIndex := 286, descriptorIndex := 25, attributes := #[] }, { accessFlags := 25, nameIndex := 288, descriptorIndex := 25, attributes := #[] }, { accessFlags := 25, nameIndex := 290, descriptorIndex := 25, attributes := #[] }, { accessFlags := 25, nameIndex := 292, descriptorIndex := 25, attributes := #[] }, { accessFlags := 26, nameIndex := 108, descriptorIndex := 109, attributes := #[] }, { accessFlags := 25, nameIndex := 294, descriptorIndex := 25, attributes := #[] }])
  fields := #[{ name := "U", type := (.object "jdk/internal/misc/Unsafe"), accessFlags := 24, slot := 0, constantValue := 0 }, { name := "BIG_ENDIAN", type := .boolean, accessFlags := 26, slot := 1, constantValue := 0 }, { name := "LOG2_ARRAY_BOOLEAN_INDEX_SCALE", type := .int, accessFlags := 25, slot := 2, constantValue := 0 }, { name := "LOG2_ARRAY_BYTE_INDEX_SCALE", type := .int, accessFlags := 25, slot := 3, constantValue := 0 }, { name := "LOG2_ARRAY_CHAR_INDEX_SCALE", type := .int, accessFlags := 25, slot := 4, constantValue := 0 }, { name := "LOG2_ARRAY_SHORT_INDEX_SCALE", type := .int, accessFlags := 25, slot := 5, constantValue := 0 }, { name := "LOG2_ARRAY_INT_INDEX_SCALE", type := .int, accessFlags := 25, slot := 6, constantValue := 0 }, { name := "LOG2_ARRAY_LONG_INDEX_SCALE", type := .int, accessFlags := 25, slot := 7, constantValue := 0 }, { name := "LOG2_ARRAY_FLOAT_INDEX_SCALE", type := .int, accessFlags := 25, slot := 8, constantValue := 0 }, { name := "LOG2_ARRAY_DOUBLE_INDEX_SCALE", type := .int, accessFlags := 25, slot := 9, constantValue := 0 }, { name := "LOG2_BYTE_BIT_SIZE", type := .int, accessFlags := 26, slot := 10, constantValue := 0 }, { name := "T_BOOLEAN", type := .int, accessFlags := 25, slot := 11, constantValue := 0 }, { name := "T_CHAR", type := .int, accessFlags := 25, slot := 12, constantValue := 0 }, { name := "T_FLOAT", type := .int, accessFlags := 25, slot := 13, constantValue := 0 }, { name := "T_DOUBLE", type := .int, accessFlags := 25, slot := 14, constantValue := 0 }, { name := "T_BYTE", type := .int, accessFlags := 25, slot := 15, constantValue := 0 }, { name := "T_SHORT", type := .int, accessFlags := 25, slot := 16, constantValue := 0 }, { name := "T_INT", type := .int, accessFlags := 25, slot := 17, constantValue := 0 }, { name := "T_LONG", type := .int, accessFlags := 25, slot := 18, constantValue := 0 }, { name := "JLA", type := (.object "jdk/internal/access/JavaLangAccess"), accessFlags := 26, slot := 19, constantValue := 0 }, { name := "SOFT_MAX_ARRAY_LENGTH", type := .int, accessFlags := 25, slot := 20, constantValue := 0 }]
  methods := #[k13m0]
  instanceTypes := #[]
  staticTypes := #[(.object "jdk/internal/misc/Unsafe"), .boolean, .int, .int, .int, .int, .int, .int, .int, .int, .int, .int, .int, .int, .int, .int, .int, .int, .int, (.object "jdk/internal/access/JavaLangAccess"), .int]
  resolved := Array.replicate 378 none
  statics := none }

def pool14 : Array CpInfo := pool [(1, u "java/lang/Cloneable"), (0, .class_ 1), (0, u "java/lang/Object"), (0, .class_ 3)] 3

/-- java/lang/Cloneable -/
def k14 : Class := { plain "java/lang/Cloneable" (some 0) with
  accessFlags := 1537
  interfaces := #[]
  cf := some (fileOf pool14 2 #[] #[] 1537 4 #[] #[])
  fields := #[]
  methods := #[]
  instanceTypes := #[]
  staticTypes := #[]
  resolved := Array.replicate 8 none
  statics := none }

/-- the primitive byte -/
def k15 : Class := { plain "byte" none with kind := .primitive 'B', accessFlags := 0x411 }
/-- [B -/
def k16 : Class := { plain "[B" (some 0) with kind := .array 15 .byte, interfaces := #[14, 4], accessFlags := 1041 }

/-- the primitive int -/
def k17 : Class := { plain "int" none with kind := .primitive 'I', accessFlags := 0x411 }
/-- [I -/
def k18 : Class := { plain "[I" (some 0) with kind := .array 17 .int, interfaces := #[14, 4], accessFlags := 1041 }

def heap : Heap := #[{ cls := 6, slots := #[.ref 13, .ref 14, .null], vm := .statics 6 },
  { cls := 7, slots := #[.ref 10, .ref 11, .ref 12, .null], vm := .statics 7 },
  { cls := 10, slots := #[.long 0, .int 1, .null, .int 0, .null, .int 0, .int 0], vm := .statics 10 },
  { cls := 12, slots := #[.null, .null, .null], vm := .statics 12 },
  { cls := 16, slots := #[.int 120, .int 45, .int 119, .int 105, .int 110, .int 115], vm := .none },
  { cls := 16, slots := #[.int 111, .int 45, .int 119, .int 105, .int 110, .int 115], vm := .none },
  { cls := 16, slots := #[.int 100, .int 114, .int 97, .int 119], vm := .none },
  { cls := 10, slots := #[.ref 4, .int 0, .int 0, .int 0], vm := .none },
  { cls := 10, slots := #[.ref 5, .int 0, .int 0, .int 0], vm := .none },
  { cls := 10, slots := #[.ref 6, .int 0, .int 0, .int 0], vm := .none },
  { cls := 7, slots := #[.null, .int 0, .int 0, .ref 7, .null], vm := .none },
  { cls := 7, slots := #[.null, .int 1, .int 0, .ref 8, .null], vm := .none },
  { cls := 7, slots := #[.null, .int 2, .int 0, .ref 9, .null], vm := .none },
  { cls := 6, slots := #[.null, .int 0, .int 0, .int 120], vm := .none },
  { cls := 6, slots := #[.null, .int 1, .int 0, .int 111], vm := .none }]
def classes : Array Class := #[k0, k1, k2, k3, k4, k5, k6, k7, k8, k9, k10, k11, k12, k13, k14, k15, k16, k17, k18]
def interned : List (Array UInt16 × Addr) := []
def slotsUsed : Nat := 68
def theMethod : MethodId := ⟨1, 1⟩
def args0 : Array Value := #[.int 5]
def aboutOver (below : List Frame) : State where
  vm := { classes := classes, interned := interned.toArray }
  heap := heap
  slotsUsed := slotsUsed
  threads := #[{ frames := .invoking theMethod args0 :: below }]
def below0 : List Frame := [.native { method := ⟨0, 0⟩, args := #[] }]
def about1 : State := aboutOver below0
def p0 : Program := .bare "" "" ""
def e0 : Env := launch0.env 0 0 0
theorem w_frames : about1.frames = Frame.invoking theMethod args0 :: below0 := rfl
set_option maxRecDepth 65536 in
theorem w_args : argsFit about1.vm theMethod args0 = true := by decide +kernel
set_option maxRecDepth 65536 in
theorem w_heap : heapFits about1 = true := by decide +kernel
set_option maxRecDepth 65536 in
theorem w_runnable : about1.curStatus? = some .runnable := by decide +kernel
set_option maxRecDepth 65536 in
theorem w_alone : about1.alone = true := by decide +kernel
set_option maxRecDepth 65536 in
theorem w_named : about1.methodNamed? x = some theMethod := by decide +kernel
set_option maxRecDepth 65536 in
theorem w_hears : about1.hears theMethod below0 = true := by decide +kernel
set_option maxRecDepth 65536 in
theorem w_ripe : about1.ripe theMethod args0 below0 = true := by decide +kernel
theorem w_running : about1.status = .running := rfl
set_option maxRecDepth 65536 in
theorem w_room : about1.hasRoom e0.platform room_1 = true :=
  launch0.hasRoom_least _ room_1 (by decide +kernel) (by decide +kernel) (by decide +kernel) (by decide +kernel) (by decide +kernel) (by decide +kernel)
theorem allAtoms_all (ts : List Jvm.Cond) (a : Array Jvm.Value) (st : Jvm.State) : (allAtoms ts).before a st = ts.all (fun c => c.before a st) := by
  induction ts with
  | nil => rfl
  | cons c t ih =>
    show (Jvm.Cond.and c (allAtoms t)).before a st = _
    rw [Jvm.Cond.before_and, ih, List.all_cons]
def words1 : List Jvm.Cond := Jvm.Cond.code x code maxLocals ret :: tables_1
/-- a 'code' word, met by the world's own term for the bytes: nothing is compared byte by byte -/
theorem code_word {y : MethodName} {bytes : ByteArray} {mx : Nat} {rt : Option FieldType} {a : Array Value} {s : State} {m : MethodId} {meth : Method} {c : Code} (h1 : s.methodNamed? y = some m) (h2 : s.vm.method? m = some meth) (h3 : meth.code = some c) (h4 : c.code = bytes)
    (h5 : (c.maxLocals == mx && c.exceptionTable.isEmpty && decide (c.maxStack ≤ mostOperands) && decide (meth.sig.returnType = rt) && !meth.locks && decide (parseMethodDescriptor y.desc = some meth.sig)) = true) : (Jvm.Cond.code y bytes mx rt).before a s = true := by
  simp only [Bool.and_eq_true, beq_iff_eq, Bool.not_eq_true', decide_eq_true_eq] at h5
  obtain ⟨⟨⟨⟨⟨g1, g2⟩, g3⟩, g4⟩, g5⟩, g6⟩ := h5
  simp [Cond.before, Cond.holds, Cond.value, h1, h2, h3, h4, g1, g2, g3, g4, g5, g6]
def isCode : Jvm.Cond → Bool
  | .code _ _ _ _ => true
  | _ => false
theorem all_split {L : List Jvm.Cond} {P : Jvm.Cond → Bool} (h1 : L.all (fun c => isCode c || P c) = true) (h2 : ∀ c ∈ L.filter isCode, P c = true) : L.all P = true := by
  refine List.all_eq_true.mpr fun c hc => ?_
  have h := List.all_eq_true.mp h1 c hc
  rcases Bool.eq_false_or_eq_true (isCode c) with hi | hi
  · exact h2 c (List.mem_filter.mpr ⟨hc, hi⟩)
  · simpa [hi] using h
set_option maxRecDepth 65536 in
theorem w_c0 : (Jvm.Cond.code x code maxLocals ret).before args0 about1 = true := code_word (m := ⟨1, 1⟩) (meth := k1m1) (c := k1c1) (by decide +kernel) rfl rfl rfl (by decide +kernel)
set_option maxRecDepth 65536 in
theorem w_c1 : (Jvm.Cond.code ({ cls := "com/example/trigrid/trigrid/Value", name := "winFor", desc := "(Lcom/example/trigrid/trigrid/Mark;)Lcom/example/trigrid/trigrid/Value;" } : Jvm.MethodName) prog_16_method_4_code (1 : Nat) (Option.some (Jvm.ClassFile.FieldType.object "com/example/trigrid/trigrid/Value"))).before args0 about1 = true := code_word (m := ⟨7, 0⟩) (meth := k7m0) (c := k7c0) (by decide +kernel) rfl rfl rfl (by decide +kernel)
set_option maxRecDepth 65536 in
theorem w_c2 : (Jvm.Cond.code ({ cls := "com/example/trigrid/trigrid/Value", name := "label", desc := "()Ljava/lang/String;" } : Jvm.MethodName) prog_16_method_5_code (1 : Nat) (Option.some (Jvm.ClassFile.FieldType.object "java/lang/String"))).before args0 about1 = true := code_word (m := ⟨7, 1⟩) (meth := k7m1) (c := k7c1) (by decide +kernel) rfl rfl rfl (by decide +kernel)
set_option maxRecDepth 65536 in
theorem w_c3 : (Jvm.Cond.code ({ cls := "java/lang/String", name := "isEmpty", desc := "()Z" } : Jvm.MethodName) jdk_42_method_55_code (1 : Nat) (Option.some Jvm.ClassFile.FieldType.boolean)).before args0 about1 = true := code_word (m := ⟨10, 1⟩) (meth := k10m1) (c := k10c1) (by decide +kernel) rfl rfl rfl (by decide +kernel)
set_option maxRecDepth 65536 in
theorem w_c4 : (Jvm.Cond.code ({ cls := "java/lang/String", name := "charAt", desc := "(I)C" } : Jvm.MethodName) jdk_42_method_56_code (2 : Nat) (Option.some Jvm.ClassFile.FieldType.char)).before args0 about1 = true := code_word (m := ⟨10, 2⟩) (meth := k10m2) (c := k10c2) (by decide +kernel) rfl rfl rfl (by decide +kernel)
set_option maxRecDepth 65536 in
theorem w_c5 : (Jvm.Cond.code ({ cls := "java/lang/String", name := "isLatin1", desc := "()Z" } : Jvm.MethodName) jdk_42_method_154_code (1 : Nat) (Option.some Jvm.ClassFile.FieldType.boolean)).before args0 about1 = true := code_word (m := ⟨10, 3⟩) (meth := k10m3) (c := k10c3) (by decide +kernel) rfl rfl rfl (by decide +kernel)
set_option maxRecDepth 65536 in
theorem w_c6 : (Jvm.Cond.code ({ cls := "java/lang/StringLatin1", name := "charAt", desc := "([BI)C" } : Jvm.MethodName) jdk_43_method_2_code (2 : Nat) (Option.some Jvm.ClassFile.FieldType.char)).before args0 about1 = true := code_word (m := ⟨11, 1⟩) (meth := k11m1) (c := k11c1) (by decide +kernel) rfl rfl rfl (by decide +kernel)
set_option maxRecDepth 65536 in
theorem w_c7 : (Jvm.Cond.code ({ cls := "java/lang/String", name := "checkIndex", desc := "(II)V" } : Jvm.MethodName) jdk_42_method_155_code (2 : Nat) (Option.none : Option Jvm.ClassFile.FieldType)).before args0 about1 = true := code_word (m := ⟨10, 4⟩) (meth := k10m4) (c := k10c4) (by decide +kernel) rfl rfl rfl (by decide +kernel)
set_option maxRecDepth 65536 in
theorem w_c8 : (Jvm.Cond.code ({ cls := "jdk/internal/util/Preconditions", name := "checkIndex", desc := "(IILjava/util/function/BiFunction;)I" } : Jvm.MethodName) jdk_41_method_11_code (3 : Nat) (Option.some Jvm.ClassFile.FieldType.int)).before args0 about1 = true := code_word (m := ⟨12, 1⟩) (meth := k12m1) (c := k12c1) (by decide +kernel) rfl rfl rfl (by decide +kernel)
set_option maxRecDepth 65536 in
theorem w_c9 : (Jvm.Cond.code ({ cls := "com/example/trigrid/trigrid/Mark", name := "symbol", desc := "()C" } : Jvm.MethodName) prog_7_method_4_code (1 : Nat) (Option.some Jvm.ClassFile.FieldType.char)).before args0 about1 = true := code_word (m := ⟨6, 0⟩) (meth := k6m0) (c := k6c0) (by decide +kernel) rfl rfl rfl (by decide +kernel)
set_option maxRecDepth 65536 in
theorem w_c10 : (Jvm.Cond.code ({ cls := "com/example/trigrid/trigrid/Mark", name := "opponent", desc := "()Lcom/example/trigrid/trigrid/Mark;" } : Jvm.MethodName) prog_7_method_5_code (1 : Nat) (Option.some (Jvm.ClassFile.FieldType.object "com/example/trigrid/trigrid/Mark"))).before args0 about1 = true := code_word (m := ⟨6, 1⟩) (meth := k6m1) (c := k6c1) (by decide +kernel) rfl rfl rfl (by decide +kernel)
def codes1 : List Jvm.Cond := [Jvm.Cond.code x code maxLocals ret, Jvm.Cond.code ({ cls := "com/example/trigrid/trigrid/Value", name := "winFor", desc := "(Lcom/example/trigrid/trigrid/Mark;)Lcom/example/trigrid/trigrid/Value;" } : Jvm.MethodName) prog_16_method_4_code (1 : Nat) (Option.some (Jvm.ClassFile.FieldType.object "com/example/trigrid/trigrid/Value")), Jvm.Cond.code ({ cls := "com/example/trigrid/trigrid/Value", name := "label", desc := "()Ljava/lang/String;" } : Jvm.MethodName) prog_16_method_5_code (1 : Nat) (Option.some (Jvm.ClassFile.FieldType.object "java/lang/String")), Jvm.Cond.code ({ cls := "java/lang/String", name := "isEmpty", desc := "()Z" } : Jvm.MethodName) jdk_42_method_55_code (1 : Nat) (Option.some Jvm.ClassFile.FieldType.boolean), Jvm.Cond.code ({ cls := "java/lang/String", name := "charAt", desc := "(I)C" } : Jvm.MethodName) jdk_42_method_56_code (2 : Nat) (Option.some Jvm.ClassFile.FieldType.char), Jvm.Cond.code ({ cls := "java/lang/String", name := "isLatin1", desc := "()Z" } : Jvm.MethodName) jdk_42_method_154_code (1 : Nat) (Option.some Jvm.ClassFile.FieldType.boolean), Jvm.Cond.code ({ cls := "java/lang/StringLatin1", name := "charAt", desc := "([BI)C" } : Jvm.MethodName) jdk_43_method_2_code (2 : Nat) (Option.some Jvm.ClassFile.FieldType.char), Jvm.Cond.code ({ cls := "java/lang/String", name := "checkIndex", desc := "(II)V" } : Jvm.MethodName) jdk_42_method_155_code (2 : Nat) (Option.none : Option Jvm.ClassFile.FieldType), Jvm.Cond.code ({ cls := "jdk/internal/util/Preconditions", name := "checkIndex", desc := "(IILjava/util/function/BiFunction;)I" } : Jvm.MethodName) jdk_41_method_11_code (3 : Nat) (Option.some Jvm.ClassFile.FieldType.int), Jvm.Cond.code ({ cls := "com/example/trigrid/trigrid/Mark", name := "symbol", desc := "()C" } : Jvm.MethodName) prog_7_method_4_code (1 : Nat) (Option.some Jvm.ClassFile.FieldType.char), Jvm.Cond.code ({ cls := "com/example/trigrid/trigrid/Mark", name := "opponent", desc := "()Lcom/example/trigrid/trigrid/Mark;" } : Jvm.MethodName) prog_7_method_5_code (1 : Nat) (Option.some (Jvm.ClassFile.FieldType.object "com/example/trigrid/trigrid/Mark"))]
set_option maxRecDepth 65536 in
theorem codes_eq : words1.filter isCode = codes1 := rfl
theorem w_codes : ∀ c ∈ words1.filter isCode, c.before args0 about1 = true := by
  rw [codes_eq]
  intro c hc
  simp only [codes1, List.mem_cons, List.not_mem_nil, or_false] at hc
  rcases hc with rfl | rfl | rfl | rfl | rfl | rfl | rfl | rfl | rfl | rfl | rfl
  · exact w_c0
  · exact w_c1
  · exact w_c2
  · exact w_c3
  · exact w_c4
  · exact w_c5
  · exact w_c6
  · exact w_c7
  · exact w_c8
  · exact w_c9
  · exact w_c10
set_option maxRecDepth 65536 in
theorem w_t1 : (words1.take 24).all (fun c => isCode c || c.before args0 about1) = true := by decide +kernel
set_option maxRecDepth 65536 in
theorem w_t2 : ((words1.drop 24).take 24).all (fun c => isCode c || c.before args0 about1) = true := by decide +kernel
set_option maxRecDepth 65536 in
theorem w_t3 : (((words1.drop 24).drop 24).take 24).all (fun c => isCode c || c.before args0 about1) = true := by decide +kernel
set_option maxRecDepth 65536 in
theorem w_t4 : (((words1.drop 24).drop 24).drop 24).all (fun c => isCode c || c.before args0 about1) = true := by decide +kernel
theorem w_tables : (allAtoms (Jvm.Cond.code x code maxLocals ret :: tables_1)).before args0 about1 = true := by
  rw [allAtoms_all]
  show words1.all (fun c => c.before args0 about1) = true
  refine all_split ?_ w_codes
  rw [← List.take_append_drop 24 words1, List.all_append, w_t1, ← List.take_append_drop 24 (words1.drop 24), List.all_append, w_t2, ← List.take_append_drop 24 ((words1.drop 24).drop 24), List.all_append, w_t3, w_t4]
  rfl
set_option maxRecDepth 65536 in
theorem w_rest : rest_1_c.before args0 about1 = true := by decide +kernel
set_option maxRecDepth 65536 in
theorem w_case : (Jvm.Cond.and given_1 narrow_1).before args0 about1 = true := by decide +kernel
theorem w_applies : (headSpec (Jvm.Cond.code x code maxLocals ret :: tables_1) room_1).applies x e0.platform about1 = true :=
  (Spec.applies_iff w_frames).mpr ⟨w_running, w_runnable, w_alone, w_named, w_hears, w_ripe, w_room, w_tables⟩
theorem atStart : AtStart classFile x code maxLocals ret World_1 tables_1 room_1 Calls_1 rest_1 Pre_1 launch0 p0 e0 about1 theMethod args0 below0 :=
  ⟨lists_1, trivial, launch0.admits_env _ _ _, launch0.least_env, fairChoices_fair.cas, fairChoices_fair.clock, w_frames, w_args, w_heap, w_applies, trivial, w_rest, w_case⟩
end start1
theorem witness_1 : WitnessClaimed_1 := ⟨start1.p0, start1.e0, start1.about1, start1.theMethod, start1.args0, start1.below0, start1.atStart⟩
end Jvm.Pilot.@@N@@
