import JvmDerived
import JvmDerived.Pilot.@@N@@Statement
import JvmDerived.Pilot.@@N@@Code
set_option linter.unusedVariables false
set_option linter.unusedSimpArgs false
namespace Jvm.Pilot.@@N@@
open Jvm Jvm.ClassFile Sem Op Lib Jvm.Free Jvm.Stand Jvm.LawKit Jvm.RoadKit Bundle Jvm.Pilot.@@N@@.Jvm.D
section OwnKit
variable {p : Program} {l : Launch} {e : Env} {R : Room} {s : State} {m : MethodId} {args : Array Value} {below : List Frame} {meth : Method} {c : Code} {T : State} {locs : List Loc} {cells slots : Nat} {Z : State} {a0 : Array Value} {h : Heap} {Q : Option Value → Heap → List Loc → Prop} {kc ks : Nat}
/-- from the state F the run comes to its return, with what Q says -/
def OGo (p : Program) (e : Env) (below : List Frame) (s : State) (Q : Option Value → Heap → List Loc → Prop) (kc ks : Nat) (F : State) : Prop :=
  ∃ (s₂ : State) (o : Outcome), Steps p.tables e below F s₂ ∧ s₂.status = .running ∧ Ended s₂ below o ∧ ∃ v L, o = .returned v ∧ Q v s₂.heap L ∧ FrameEnd s o s₂ L kc ks
theorem OGo.step {F F' : State} (k : ∀ t, Steps p.tables e below F' t → Steps p.tables e below F t) (g : OGo p e below s Q kc ks F') : OGo p e below s Q kc ks F := by
  obtain ⟨s₂, o, h, r⟩ := g
  exact ⟨s₂, o, k _ h, r⟩
theorem OGo.retOut (X : Stand p l e R s m args below meth c T locs cells slots) (hx : p.tables.exec = Jvm.exec) (hlk : meth.locks = false) {pc : Nat} {Ls : Array Slot} {w : Value} {t : FieldType} {i : Instr} {rest : List Value} (hret : meth.sig.returnType = some t) (hn : narrow t w = w)
    (hi : (i = .ireturn ∧ (t = .int ∨ t = .boolean ∨ t = .byte ∨ t = .char ∨ t = .short) ∧ ∃ z, w = .int z) ∨ (i = .lreturn ∧ t = .long ∧ ∃ z, w = .long z) ∨ (i = .dreturn ∧ t = .double ∧ ∃ z, w = .double z) ∨ (i = .freturn ∧ t = .float ∧ ∃ z, w = .float z) ∨ (i = .areturn ∧ t.isReference = true ∧ w.isRef = true))
    (hd : decode c.code pc = .ok (i, 1)) (hQ : Q (some w) T.heap locs) (hc : cells ≤ kc) (hs : slots ≤ ks) : OGo p e below s Q kc ks (T.setTop (mkF m pc Ls (w :: rest))) := by
  obtain ⟨fs, hr, hrun, hended, hW, hsame⟩ := X.leave (v := some w) (fun h => by rw [hret] at h; cases h) hlk
  exact ⟨_, _, Jvm.RoadKit.retOut X hx hret hn hi hd hr, hrun, hended, _, _, rfl, hQ, ⟨_, rfl⟩, hW, hsame.mono hc hs⟩
theorem OGo.retI (X : Stand p l e R s m args below meth c T locs cells slots) (hx : p.tables.exec = Jvm.exec) (hlk : meth.locks = false) {pc : Nat} {Ls : Array Slot} {z : Int32} {rest : List Value} (hret : meth.sig.returnType = some .int) (hd : decode c.code pc = .ok (.ireturn, 1)) (hQ : Q (some (.int z)) T.heap locs) (hc : cells ≤ kc) (hs : slots ≤ ks) :
    OGo p e below s Q kc ks (T.setTop (mkF m pc Ls (.int z :: rest))) := OGo.retOut X hx hlk hret rfl (Or.inl ⟨rfl, Or.inl rfl, _, rfl⟩) hd hQ hc hs
theorem OGo.retJ (X : Stand p l e R s m args below meth c T locs cells slots) (hx : p.tables.exec = Jvm.exec) (hlk : meth.locks = false) {pc : Nat} {Ls : Array Slot} {z : Int64} {rest : List Value} (hret : meth.sig.returnType = some .long) (hd : decode c.code pc = .ok (.lreturn, 1)) (hQ : Q (some (.long z)) T.heap locs) (hc : cells ≤ kc) (hs : slots ≤ ks) :
    OGo p e below s Q kc ks (T.setTop (mkF m pc Ls (.long z :: rest))) := OGo.retOut X hx hlk hret rfl (Or.inr (Or.inl ⟨rfl, rfl, _, rfl⟩)) hd hQ hc hs
theorem OGo.retA (X : Stand p l e R s m args below meth c T locs cells slots) (hx : p.tables.exec = Jvm.exec) (hlk : meth.locks = false) {pc : Nat} {Ls : Array Slot} {w : Value} {t : FieldType} {rest : List Value} (hret : meth.sig.returnType = some t) (ht : t.isReference = true) (hw : w.isRef = true) (hn : narrow t w = w) (hd : decode c.code pc = .ok (.areturn, 1)) (hQ : Q (some w) T.heap locs) (hc : cells ≤ kc) (hs : slots ≤ ks) :
    OGo p e below s Q kc ks (T.setTop (mkF m pc Ls (w :: rest))) := OGo.retOut X hx hlk hret hn (Or.inr (Or.inr (Or.inr (Or.inr ⟨rfl, ht, hw⟩)))) hd hQ hc hs
theorem OGo.retZ (X : Stand p l e R s m args below meth c T locs cells slots) (hx : p.tables.exec = Jvm.exec) (hlk : meth.locks = false) {pc : Nat} {Ls : Array Slot} {z z' : Int32} {t : FieldType} {rest : List Value} (hret : meth.sig.returnType = some t) (ht : t = .boolean ∨ t = .byte ∨ t = .char ∨ t = .short) (hd : decode c.code pc = .ok (.ireturn, 1)) (hz : nar t z = z') (hQ : Q (some (.int z')) T.heap locs) (hc : cells ≤ kc) (hs : slots ≤ ks) :
    OGo p e below s Q kc ks (T.setTop (mkF m pc Ls (.int z :: rest))) := by
  subst hz
  obtain ⟨fs, hr, hrun, hended, hW, hsame⟩ := X.leave (v := some (.int (nar t z))) (fun h => by rw [hret] at h; cases h) hlk
  exact ⟨_, _, Jvm.RoadKit.retN X hx hret ht hd hr, hrun, hended, _, _, rfl, hQ, ⟨_, rfl⟩, hW, hsame.mono hc hs⟩
theorem OGo.retV (X : Stand p l e R s m args below meth c T locs cells slots) (hx : p.tables.exec = Jvm.exec) (hlk : meth.locks = false) {pc : Nat} {Ls : Array Slot} (hret : meth.sig.returnType = none) (hd : decode c.code pc = .ok (.return_, 1)) (hQ : Q none T.heap locs) (hc : cells ≤ kc) (hs : slots ≤ ks) :
    OGo p e below s Q kc ks (T.setTop (mkF m pc Ls [])) := by
  obtain ⟨fs, hr, hrun, hended, hW, hsame⟩ := X.leave (v := none) (fun _ => rfl) hlk
  exact ⟨_, _, X.returnOut hx hret hd hr, hrun, hended, _, _, rfl, hQ, ⟨_, rfl⟩, hW, hsame.mono hc hs⟩
/-- a body's contract -/
abbrev OCtr (l : Launch) (Z : State) (y : MethodName) (bytes : ByteArray) (maxL : Nat) (ret : Option FieldType) (ws : List Jvm.Cond) (rm : Room) (as' : Array Value) (h0 : Heap) (Q : Option Value → Heap → List Loc → Prop) : Prop :=
  MetFree l y (head1 (Jvm.Cond.code y bytes maxL ret :: ws) rm) (fun a U => a = as' ∧ Z.Warmed39 U.vm ∧ U.heap = h0) (fun _ _ _ _ _ => True) (fun _ U o U' => ∃ v L, o = .returned v ∧ Q v U'.heap L ∧ FrameEnd U o U' L rm.cells rm.slots)
theorem OCtr.of {y : MethodName} {bytes : ByteArray} {maxL : Nat} {ret : Option FieldType} {ws : List Jvm.Cond} {rm : Room} {as' : Array Value} (hp : plainFor y = true)
    (k : ∀ (p : Program) (e : Env) (s : State) (m : MethodId) (below : List Frame) (meth : Method) (c : Code) (s₁ : State), Stand p l e rm s m as' below meth c s₁ [] 0 0 → p.tables.exec = Jvm.exec → meth.locks = false → Z.Warmed39 s.vm → s.vm.findClass y.cls = some m.cls → meth.name = y.name → c.code = bytes → c.maxLocals = maxL → meth.sig.returnType = ret → s₁.heap = h →
      OGo p e below s Q rm.cells rm.slots (s₁.setTop (entryFrame m as' maxL))) : OCtr l Z y bytes maxL ret ws rm as' h Q := by
  refine MetFree.of_bodySF hp hisR ?_
  intro p e s m args below meth c s₁ Bd hml0 hP hK
  obtain ⟨rfl, hZ, hh⟩ := hP
  exact k p e s m below meth c s₁ (Stand.of_body Bd) Bd.exec Bd.notSynchronized hZ (findClass_of_methodNamed Bd.named) (name_of_methodNamed Bd.named Bd.method).1 Bd.bytes hml0 Bd.returns (by rw [← hh, Bd.state]; rfl)
/-- it returns w, and the heap is as it was -/
def OPure (w : Option Value) (h0 : Heap) (n0 : Nat) : Option Value → Heap → List Loc → Prop := fun v h L => v = w ∧ Fr n0 L ∧ h = h0
theorem OGo.callS (X : Stand p l e R s m args below meth c T locs cells slots) (hx : p.tables.exec = Jvm.exec) (hZ : Z.Warmed39 s.vm) {own : String} {index : Nat} {y : MethodName} {bytes : ByteArray} {maxL : Nat} {ret : Option FieldType} (hown : s.vm.findClass own = some m.cls)
    (wl : (Jvm.Cond.methodLink own index y).before a0 Z = true) (wst : (Jvm.Cond.static y).before a0 Z = true) (wi : (Jvm.Cond.initialized y.cls).before a0 Z = true) (wc : (Jvm.Cond.code y bytes maxL ret).before a0 Z = true) (hy : y.cls ≠ "java/lang/invoke/MethodHandle" ∧ y.cls ≠ "java/lang/invoke/VarHandle")
    {rm : Room} {as' : Array Value} {Q' : Option Value → Heap → List Loc → Prop} (hM : OCtr l Z y bytes maxL ret [] rm as' h Q') {W : Nat} (hf : rm.frames + 1 ≤ R.frames) (hl : W + (maxL + 11) + rm.locals ≤ R.locals)
    {g : JFrame} (hg : g.method = m) (hsize : g.locals.size = c.maxLocals) {argsL rest : List Value} (hlen : ∀ sig, parseMethodDescriptor y.desc = some sig → argsL.length = sig.parameters.length) (hstack : g.stack = argsL.reverse ++ rest) (hW : 2 * g.monitorRoom + (rest.map fun v => v.category).sum ≤ W) (hdg : decode c.code g.pc = .ok (.invokestatic index, 3))
    (ha : argsL.toArray = as') (e0 : T.heap = h) (hc : cells + rm.cells ≤ R.cells) (hs : slots + rm.slots ≤ R.slots)
    (k : ∀ (v : Option Value) (T' : State) (L' : List Loc), Stand p l e R s m args below meth c T' (locs ++ L') (cells + rm.cells) (slots + rm.slots) → Q' v T'.heap L' → OGo p e below s Q kc ks (T'.setTop { g with pc := g.pc + 3, stack := v.toList ++ rest })) : OGo p e below s Q kc ks (T.setTop g) := by
  obtain ⟨v, _, ⟨T', L', k', n'⟩, -, X', ⟨Lc, hQ, l', y', z'⟩, st⟩ := Jvm.LawKit.callS X hx hown (mvT hZ wl) (mvT hZ wst) (mvT hZ wi) (mvT hZ wc) hy (backOf (W := W) hM hZ wc wi hf hl) hg hsize hlen hstack hW hdg (fun _ _ => ⟨ha, e0, hc, hs⟩)
  dsimp only [Pt.U, Pt.locs, Pt.cells, Pt.slots] at X' l' y' z' st hQ
  subst l' y' z'
  exact OGo.step st (k v T' Lc X' hQ)
theorem OGo.callV (X : Stand p l e R s m args below meth c T locs cells slots) (hx : p.tables.exec = Jvm.exec) (hZ : Z.Warmed39 s.vm) {own C : String} {index : Nat} {y z : MethodName} {bytes : ByteArray} {maxL : Nat} {ret : Option FieldType} (hown : s.vm.findClass own = some m.cls)
    (wl : (Jvm.Cond.methodLink own index y).before a0 Z = true) (wd : (Jvm.Cond.declares y).before a0 Z = true) (hnf : NotFace s y) (wsel : (Jvm.Cond.selects C y z).before a0 Z = true) (win : (Jvm.Cond.instanceMethod z).before a0 Z = true) (wi : (Jvm.Cond.initialized z.cls).before a0 Z = true) (wc : (Jvm.Cond.code z bytes maxL ret).before a0 Z = true) (hy : y.cls ≠ "java/lang/invoke/MethodHandle" ∧ y.cls ≠ "java/lang/invoke/VarHandle")
    {rm : Room} {as' : Array Value} {Q' : Option Value → Heap → List Loc → Prop} (hM : OCtr l Z z bytes maxL ret [] rm as' h Q') {W : Nat} (hf : rm.frames + 1 ≤ R.frames) (hl : W + (maxL + 11) + rm.locals ≤ R.locals) {b : Addr} (E : Exa Z h b C)
    {g : JFrame} (hg : g.method = m) (hsize : g.locals.size = c.maxLocals) {argsL rest : List Value} (hlen : ∀ sig, parseMethodDescriptor y.desc = some sig → argsL.length = sig.parameters.length) (hstack : g.stack = argsL.reverse ++ .ref b :: rest) (hW : 2 * g.monitorRoom + (rest.map fun v => v.category).sum ≤ W) (hdg : decode c.code g.pc = .ok (.invokevirtual index, 3))
    (ha : (.ref b :: argsL).toArray = as') (e0 : T.heap = h) (hc : cells + rm.cells ≤ R.cells) (hs : slots + rm.slots ≤ R.slots)
    (k : ∀ (v : Option Value) (T' : State) (L' : List Loc), Stand p l e R s m args below meth c T' (locs ++ L') (cells + rm.cells) (slots + rm.slots) → Q' v T'.heap L' → OGo p e below s Q kc ks (T'.setTop { g with pc := g.pc + 3, stack := v.toList ++ rest })) : OGo p e below s Q kc ks (T.setTop g) := by
  obtain ⟨cq, kq, q1, q2, q3⟩ := isOf hZ e0 E
  obtain ⟨v, _, ⟨T', L', k', n'⟩, -, X', ⟨Lc, hQ, l', y', z'⟩, st⟩ := X.virtualBack hx hown (mvT hZ wl) (mvT hZ wd) hnf (mvT hZ wsel) (mvT hZ win) hy (backOf (W := W) hM hZ wc wi hf hl) q1 q3 hg hsize (Steps.refl _) hlen hstack hW hdg (fun _ _ => ⟨ha, e0, hc, hs⟩)
  dsimp only [Pt.U, Pt.locs, Pt.cells, Pt.slots] at X' l' y' z' st hQ
  subst l' y' z'
  exact OGo.step (fun t q => st.trans q) (k v T' Lc X' hQ)
theorem OGo.callC (X : Stand p l e R s m args below meth c T locs cells slots) (hx : p.tables.exec = Jvm.exec) (hZ : Z.Warmed39 s.vm) {own : String} {index : Nat} {y : MethodName} {bytes : ByteArray} {maxL : Nat} (hy1 : y.name = "<init>") (hown : s.vm.findClass own = some m.cls)
    (wl : (Jvm.Cond.methodLink own index y).before a0 Z = true) (win : (Jvm.Cond.instanceMethod y).before a0 Z = true) (wi : (Jvm.Cond.initialized y.cls).before a0 Z = true) (wc : (Jvm.Cond.code y bytes maxL none).before a0 Z = true) (hy : y.cls ≠ "java/lang/invoke/MethodHandle" ∧ y.cls ≠ "java/lang/invoke/VarHandle")
    {rm : Room} {as' : Array Value} {Q' : Option Value → Heap → List Loc → Prop} (hM : OCtr l Z y bytes maxL none [] rm as' h Q') {W : Nat} (hf : rm.frames + 1 ≤ R.frames) (hl : W + (maxL + 11) + rm.locals ≤ R.locals) {b : Addr}
    {g : JFrame} (hg : g.method = m) (hsize : g.locals.size = c.maxLocals) {argsL rest : List Value} (hlen : ∀ sig, parseMethodDescriptor y.desc = some sig → argsL.length = sig.parameters.length) (hstack : g.stack = argsL.reverse ++ .ref b :: rest) (hW : 2 * g.monitorRoom + (rest.map fun v => v.category).sum ≤ W) (hdg : decode c.code g.pc = .ok (.invokespecial index, 3))
    (ha : (.ref b :: argsL).toArray = as') (e0 : T.heap = h) (hc : cells + rm.cells ≤ R.cells) (hs : slots + rm.slots ≤ R.slots)
    (k : ∀ (v : Option Value) (T' : State) (L' : List Loc), Stand p l e R s m args below meth c T' (locs ++ L') (cells + rm.cells) (slots + rm.slots) → Q' v T'.heap L' → OGo p e below s Q kc ks (T'.setTop { g with pc := g.pc + 3, stack := v.toList ++ rest })) : OGo p e below s Q kc ks (T.setTop g) := by
  obtain ⟨v, _, ⟨T', L', k', n'⟩, -, X', ⟨Lc, hQ, l', y', z'⟩, st⟩ := X.specialBack hx hy1 hown (mvT hZ wl) (mvT hZ win) (mvT hZ wc) hy (backOf (W := W) hM hZ wc wi hf hl) hg hsize (Steps.refl _) hlen hstack hW hdg (fun _ _ => ⟨ha, e0, hc, hs⟩)
  dsimp only [Pt.U, Pt.locs, Pt.cells, Pt.slots] at X' l' y' z' st hQ
  subst l' y' z'
  exact OGo.step (fun t q => st.trans q) (k v T' Lc X' hQ)
theorem own_wd (hw : ∀ d ∈ tables_1, d.before a0 Z = true) (i : Nat) {d : Jvm.Cond} (q : tables_1[i]? = some d) : d.before a0 Z = true := hw _ (List.mem_of_getElem? q)
theorem own_narc (x : Int32) : nar .char (x.toUInt32.toUInt16.toUInt32.toInt32) = x.toUInt32.toUInt16.toUInt32.toInt32 := by
  show x.toUInt32.toUInt16.toUInt32.toInt32.toUInt32.toUInt16.toUInt32.toInt32 = _
  simp only [UInt32.toUInt32_toInt32, UInt16.toUInt16_toUInt32]
theorem own_obj {a : Addr} {C : String} (F : Exa Z h a C) : ∃ cell : Cell, h[a]? = some cell ∧ cell.vm.isStatics = false := by
  obtain ⟨cell, _, h1, -, -, h4, -⟩ := F; exact ⟨cell, h1, h4⟩
theorem own_stakeep {h' : Heap} {ws : List Addr} {C n d : String} {v : Value} (F : Sta Z h C n d v) (K : Keep h h' ws) (q : ∀ x ∈ ws, ∃ cell : Cell, h[x]? = some cell ∧ cell.vm.isStatics = false) : Sta Z h' C n d v := by
  obtain ⟨cf, i, k, f, st, cell, h1, h2, h3, h4, h5, h6, h7⟩ := F
  refine ⟨cf, i, k, f, st, cell, h1, h2, h3, h4, K.2.1 _ _ h5 fun hm => ?_, h6, h7⟩
  obtain ⟨c', g1, g2⟩ := q _ hm
  cases g1.symm.trans h5
  rw [h6] at g2; cases g2
end OwnKit
theorem own_eqi {args : Array Value} {Z : State} {t : Term} {k : Int32} (q : (Jvm.Cond.eq t (Term.int k)).value args Z none Z [] = some true) : t.eval args Z none [] Z = some (.int k) := by
  have e2 : (Term.int k).eval args Z none [] Z = some (.int k) := rfl
  simp only [Cond.value, e2] at q
  cases hf : t.eval args Z none [] Z with
  | none => simp [hf] at q
  | some v => cases v <;> simp [hf] at q <;> simp [q]
theorem own_fldR {args : Array Value} {Z : State} {t : Term} {a : Addr} {C n d : String} {v : Value} (ev : t.eval args Z none [] Z = some (.ref a)) (q : (Term.field t C n d).eval args Z none [] Z = some v) : Fld Z Z.heap a C n d v := by
  refine Fld.start ?_
  rw [← q]; simp [Term.eval, ev]
theorem own_lenz {args : Array Value} {Z : State} {t : Term} {a : Addr} {cl : Cell} {z : Int32} (ev : t.eval args Z none [] Z = some (.ref a)) (A : Z.arrayAt? a = some cl) (q : (Term.length t).eval args Z none [] Z = some (.int z)) : cl.slots.size < 2 ^ 31 ∧ cl.slots.size.toInt32 = z := by
  simp only [Term.eval, ev, A, Option.bind_eq_bind, Option.bind_some] at q
  split at q
  · rename_i h; simp only [Option.pure_def, Option.some.injEq, Value.int.injEq] at q; exact ⟨h, q⟩
  · cases q
theorem own_el {args : Array Value} {Z : State} {t : Term} {a : Addr} {cl : Cell} {k x : Int32} {j : Nat} (ev : t.eval args Z none [] Z = some (.ref a)) (A : Z.arrayAt? a = some cl) (q : (Term.elem t (Term.int k)).eval args Z none [] Z = some (.int x)) (hk : ¬ k < 0) (e : k.toNatClampNeg = j) : cl.slots[j]? = some (.int x) := by
  rw [← e, ← elem_f ev (Term.int_eval k) A hk]; exact q
/-- the byte of a char below 256 -/
def own_by (x : Int32) : Int32 := nar .byte (x.toInt8.toInt32)
/-- a byte[] of one byte -/
def OBy (Z : State) (h : Heap) (t : Addr) (b : Int32) : Prop := ∃ k, Arv Z h t k .byte (1 : Int32) [(.int b)] (.int (0 : Int32))
theorem OBy.lt {Z : State} {h : Heap} {t : Addr} {b : Int32} (F : OBy Z h t b) : t < h.size := by obtain ⟨k, V⟩ := F; exact V.lt
theorem OBy.ext {Z : State} {h h' : Heap} {t : Addr} {b : Int32} (F : OBy Z h t b) (E : Ext h h') : OBy Z h' t b := by obtain ⟨k, V⟩ := F; exact ⟨k, V.ext E⟩
theorem OBy.other {Z : State} {h h' : Heap} {t a : Addr} {b : Int32} {sl : Nat} {v : Value} (F : OBy Z h t b) (W : Wr h h' a sl v) (q : t ≠ a) : OBy Z h' t b := by obtain ⟨k, V⟩ := F; exact ⟨k, V.other W q⟩
theorem OBy.keep {Z : State} {h h' : Heap} {t : Addr} {b : Int32} {ws : List Addr} (F : OBy Z h t b) (K : Keep h h' ws) (n : t ∉ ws) : OBy Z h' t b := by obtain ⟨k, V⟩ := F; exact ⟨k, V.keep K n⟩
theorem own_n4 {x : Int32} (h : x < (5 : Int32)) : ¬ ((4 : Int32) < x) := by rw [Int32.lt_iff_toInt_lt] at *; simp only [Int32.reduceToInt] at *; omega
/-! body 2: java/lang/StringLatin1.canEncode:(C)Z -/
theorem d2_0 : decode jdk_43_method_3_code 0 = .ok (.iload_n 0, 1) := by decide +kernel
theorem d2_1 : decode jdk_43_method_3_code 1 = .ok (.sipush 255, 3) := by decide +kernel
theorem d2_4 : decode jdk_43_method_3_code 4 = .ok (.if_icmp .gt 7, 3) := by decide +kernel
theorem d2_7 : decode jdk_43_method_3_code 7 = .ok (.iconst 1, 1) := by decide +kernel
theorem d2_8 : decode jdk_43_method_3_code 8 = .ok (.goto 4, 3) := by decide +kernel
theorem d2_11 : decode jdk_43_method_3_code 11 = .ok (.iconst 0, 1) := by decide +kernel
theorem d2_12 : decode jdk_43_method_3_code 12 = .ok (.ireturn, 1) := by decide +kernel
theorem pn_2 : plainName "java/lang/StringLatin1" = true := by first | (simp [plainName, overriddenIn]; done) | decide +kernel
theorem ef_2 (m : MethodId) (x0 : Int32) : entryFrame m #[(.int x0)] 1 = mkF m 0 #[.val (.int x0)] [] := by first | (simp [entryFrame, mkF, argsToLocals, Value.category]; done) | rfl
def f2 (p0 : Int32) : Int32 :=
  if (255 : Int32) < p0 then (0 : Int32)
  else (1 : Int32)
theorem fb2 (p0 : Int32) : nar .boolean (f2 p0) = (f2 p0) := by
  unfold f2
  repeat' split
  all_goals first | rfl | decide
set_option maxRecDepth 65536 in
set_option maxHeartbeats 40000000 in
theorem rm2 (l : Launch) (Z : State) (az : Array Value) (hw : ∀ d ∈ tables_1, d.before az Z = true) (ws : List Jvm.Cond) (p0 : Int32) (h0 : Heap) (n0 : Nat) (Z0 : n0 ≤ h0.size) :
    OCtr l Z (⟨"java/lang/StringLatin1", "canEncode", "(C)Z"⟩ : MethodName) jdk_43_method_3_code 1 (some .boolean) ws ({ frames := 0, cells := 0, slots := 0, locals := 0 } : Room) #[(.int p0)] h0 (OPure (some (.int (f2 p0))) h0 n0) := by
  refine OCtr.of (plainFor_of_name pn_2) ?_
  intro p e s m below meth c s₁ X0 hx hlk hZ hown0 hnm hby hml0 hret e0
  have hown : s.vm.findClass "java/lang/StringLatin1" = some m.cls := hown0
  have hml : c.maxLocals = 1 := hml0
  have N0 := Fr.nil n0
  refine OGo.step (fun t k => castTop (ef_2 m p0) k) ?_
  refine OGo.step (F' := s₁.setTop (mkF m 4 #[.val (.int p0)] [(.int (255 : Int32)), (.int p0)])) (fun t kt => ?_) ?_
  · show Steps p.tables e below (s₁.setTop (mkF m 0 #[.val (.int p0)] [])) t
    refine XS.iloadN X0.here hx rfl (hb hby d2_0) rfl ?_
    show Steps p.tables e below (s₁.setTop (mkF m 1 #[.val (.int p0)] [(.int p0)])) t
    refine XS.sipush X0.here hx rfl (hb hby d2_1) ?_
    exact kt
  by_cases hc4 : (255 : Int32) < p0
  · refine OGo.step (F' := s₁.setTop (mkF m 11 #[.val (.int p0)] [])) (fun t kt => ?_) ?_
    · show Steps p.tables e below (s₁.setTop (mkF m 4 #[.val (.int p0)] [(.int (255 : Int32)), (.int p0)])) t
      refine XS.icmpYes X0.here hx rfl (pc0 := 4) (pc' := 11) rfl (hb hby d2_4) rfl (tlt hc4).2.2.1 (by decide) (by decide) ?_
      exact kt
    refine OGo.step (F' := s₁.setTop (mkF m 12 #[.val (.int p0)] [(.int (0 : Int32))])) (fun t kt => ?_) ?_
    · show Steps p.tables e below (s₁.setTop (mkF m 11 #[.val (.int p0)] [])) t
      refine XS.iconst X0.here hx rfl (hb hby d2_11) ?_
      exact kt
    refine OGo.retZ X0 hx hlk (t := .boolean) (z' := (0 : Int32)) hret (by simp) (hb hby d2_12) rfl ?_ (by decide) (by decide)
    exact ⟨(by rw [f2, if_pos hc4]), N0, e0⟩
  · refine OGo.step (F' := s₁.setTop (mkF m 7 #[.val (.int p0)] [])) (fun t kt => ?_) ?_
    · show Steps p.tables e below (s₁.setTop (mkF m 4 #[.val (.int p0)] [(.int (255 : Int32)), (.int p0)])) t
      refine XS.icmpNo X0.here hx rfl (hb hby d2_4) rfl (flt hc4).2.2.1 ?_
      exact kt
    refine OGo.step (F' := s₁.setTop (mkF m 12 #[.val (.int p0)] [(.int (1 : Int32))])) (fun t kt => ?_) ?_
    · show Steps p.tables e below (s₁.setTop (mkF m 7 #[.val (.int p0)] [])) t
      refine XS.iconst X0.here hx rfl (hb hby d2_7) ?_
      show Steps p.tables e below (s₁.setTop (mkF m 8 #[.val (.int p0)] [(.int (1 : Int32))])) t
      refine XS.goto X0.here hx rfl (pc0 := 8) (pc' := 12) rfl (hb hby d2_8) (by decide) (by decide) ?_
      exact kt
    refine OGo.retZ X0 hx hlk (t := .boolean) (z' := (1 : Int32)) hret (by simp) (hb hby d2_12) rfl ?_ (by decide) (by decide)
    exact ⟨(by rw [f2, if_neg hc4]), N0, e0⟩
/-! body 3: java/lang/StringLatin1.toBytes:(C)[B -/
theorem d3_0 : decode jdk_43_method_46_code 0 = .ok (.iconst 1, 1) := by decide +kernel
theorem d3_1 : decode jdk_43_method_46_code 1 = .ok (.newarray .byte, 2) := by decide +kernel
theorem d3_3 : decode jdk_43_method_46_code 3 = .ok (.dup, 1) := by decide +kernel
theorem d3_4 : decode jdk_43_method_46_code 4 = .ok (.iconst 0, 1) := by decide +kernel
theorem d3_5 : decode jdk_43_method_46_code 5 = .ok (.iload_n 0, 1) := by decide +kernel
theorem d3_6 : decode jdk_43_method_46_code 6 = .ok (.i2b, 1) := by decide +kernel
theorem d3_7 : decode jdk_43_method_46_code 7 = .ok (.bastore, 1) := by decide +kernel
theorem d3_8 : decode jdk_43_method_46_code 8 = .ok (.areturn, 1) := by decide +kernel
theorem pn_3 : plainName "java/lang/StringLatin1" = true := by first | (simp [plainName, overriddenIn]; done) | decide +kernel
theorem ef_3 (m : MethodId) (x0 : Int32) : entryFrame m #[(.int x0)] 1 = mkF m 0 #[.val (.int x0)] [] := by first | (simp [entryFrame, mkF, argsToLocals, Value.category]; done) | rfl
def Q3 (Z : State) (p0 : Int32) (h0 : Heap) (n0 : Nat) (v : Option Value) (h : Heap) (L : List Loc) : Prop := ∃ t : Addr, v = some (.ref t) ∧ Fr n0 L ∧ Keep h0 h [] ∧ h0.size ≤ t ∧ OBy Z h t (own_by p0)
set_option maxRecDepth 65536 in
set_option maxHeartbeats 40000000 in
theorem rm3 (l : Launch) (Z : State) (az : Array Value) (hw : ∀ d ∈ tables_1, d.before az Z = true) (ws : List Jvm.Cond) (p0 : Int32) (h0 : Heap) (n0 : Nat) (Z0 : n0 ≤ h0.size) :
    OCtr l Z (⟨"java/lang/StringLatin1", "toBytes", "(C)[B"⟩ : MethodName) jdk_43_method_46_code 1 (some (.array .byte)) ws ({ frames := 0, cells := 1, slots := 1, locals := 0 } : Room) #[(.int p0)] h0 (Q3 Z p0 h0 n0) := by
  refine OCtr.of (plainFor_of_name pn_3) ?_
  intro p e s m below meth c s₁ X0 hx hlk hZ hown0 hnm hby hml0 hret e0
  have hown : s.vm.findClass "java/lang/StringLatin1" = some m.cls := hown0
  have hml : c.maxLocals = 1 := hml0
  have N0 := Fr.nil n0
  refine OGo.step (fun t k => castTop (ef_3 m p0) k) ?_
  refine OGo.step (F' := s₁.setTop (mkF m 1 #[.val (.int p0)] [(.int (1 : Int32))])) (fun t kt => ?_) ?_
  · show Steps p.tables e below (s₁.setTop (mkF m 0 #[.val (.int p0)] [])) t
    refine XS.iconst X0.here hx rfl (hb hby d3_0) ?_
    exact kt
  obtain ⟨T1, h1, k1, X1, e1, E1, A1, st1⟩ := newP X0 hx hZ (own_wd hw 16 rfl) e0 (g := (mkF m 1 #[.val (.int p0)] [(.int (1 : Int32))])) rfl (hb hby d3_1) rfl (by decide) (cap := 1) (by decide) (by decide) (by decide) (by decide)
  obtain ⟨b1, g1⟩ : ∃ z, z = h0.size := ⟨_, rfl⟩
  rw [← g1] at A1 st1
  have sz_b1 : h0.size ≤ b1 := Nat.le_trans (Keep.refl h0 []).1 (Nat.le_of_eq g1.symm)
  have gn_b1 : n0 ≤ b1 := Nat.le_trans Z0 sz_b1
  have KC1 : Keep h0 h1 [] := (Keep.refl h0 []).ext E1
  have V1 : Arv Z h1 b1 k1 .byte (1 : Int32) [(.int (0 : Int32))] (.int (0 : Int32)) := (Arv.new A1 (by decide)).pad (pad_rep [] (.int (0 : Int32)) 1)
  refine OGo.step st1 ?_
  show OGo _ _ _ _ _ _ _ (T1.setTop (mkF m 3 #[.val (.int p0)] [(.ref b1)]))
  refine OGo.step (F' := T1.setTop (mkF m 7 #[.val (.int p0)] [(.int (p0.toInt8.toInt32)), (.int (0 : Int32)), (.ref b1), (.ref b1)])) (fun t kt => ?_) ?_
  · show Steps p.tables e below (T1.setTop (mkF m 3 #[.val (.int p0)] [(.ref b1)])) t
    refine XS.dup X1.here hx rfl (hb hby d3_3) rfl rfl ?_
    show Steps p.tables e below (T1.setTop (mkF m 4 #[.val (.int p0)] [(.ref b1), (.ref b1)])) t
    refine XS.iconst X1.here hx rfl (hb hby d3_4) ?_
    show Steps p.tables e below (T1.setTop (mkF m 5 #[.val (.int p0)] [(.int (0 : Int32)), (.ref b1), (.ref b1)])) t
    refine XS.iloadN X1.here hx rfl (hb hby d3_5) rfl ?_
    show Steps p.tables e below (T1.setTop (mkF m 6 #[.val (.int p0)] [(.int p0), (.int (0 : Int32)), (.ref b1), (.ref b1)])) t
    refine XS.i2b X1.here hx rfl (hb hby d3_6) rfl ?_
    exact kt
  obtain ⟨cl2, Ar2, q2, S2, N2a, H2, G2⟩ := id (V1)
  have hin2 : ¬ ((0 : Int32) < 0 ∨ cl2.slots.size ≤ ((0 : Int32)).toNatClampNeg) := inb_of S2 ⟨by decide, by decide⟩
  obtain ⟨T2, h2, X2, e2, W2, st2⟩ := stB X1 hx hZ e1 Ar2 (j := (0 : Int32)) hin2 (g := (mkF m 7 #[.val (.int p0)] [(.int (p0.toInt8.toInt32)), (.int (0 : Int32)), (.ref b1), (.ref b1)])) rfl rfl (hb hby d3_7)
  have V2 : Arv Z h2 b1 k1 .byte (1 : Int32) [(.int (own_by p0))] (.int (0 : Int32)) := Arv.set Ar2 q2 S2 N2a H2 G2 (fits_nar_byte _) W2 0 rfl (Nat.le_of_ble_eq_true rfl)
  have KC2 : Keep h0 h2 [] := KC1.wr W2 (Or.inr sz_b1)
  have N2 := Fr.snoc X2 N0 gn_b1
  refine OGo.step st2 ?_
  show OGo _ _ _ _ _ _ _ (T2.setTop (mkF m 8 #[.val (.int p0)] [(.ref b1)]))
  refine OGo.retA X2 hx hlk (t := (.array .byte)) hret rfl rfl rfl (hb hby d3_8) ?_ (by decide) (by decide)
  show Q3 Z p0 h0 n0 _ T2.heap _
  rw [e2]
  exact ⟨b1, rfl, N2, KC2, sz_b1, ⟨_, V2⟩⟩
/-! body 4: java/lang/String.<init>:([BB)V -/
theorem d4_0 : decode jdk_42_method_151_code 0 = .ok (.aload_n 0, 1) := by decide +kernel
theorem d4_1 : decode jdk_42_method_151_code 1 = .ok (.invokespecial 1, 3) := by decide +kernel
theorem d4_4 : decode jdk_42_method_151_code 4 = .ok (.aload_n 0, 1) := by decide +kernel
theorem d4_5 : decode jdk_42_method_151_code 5 = .ok (.aload_n 1, 1) := by decide +kernel
theorem d4_6 : decode jdk_42_method_151_code 6 = .ok (.putfield 9, 3) := by decide +kernel
theorem d4_9 : decode jdk_42_method_151_code 9 = .ok (.aload_n 0, 1) := by decide +kernel
theorem d4_10 : decode jdk_42_method_151_code 10 = .ok (.iload_n 2, 1) := by decide +kernel
theorem d4_11 : decode jdk_42_method_151_code 11 = .ok (.putfield 15, 3) := by decide +kernel
theorem d4_14 : decode jdk_42_method_151_code 14 = .ok (.return_, 1) := by decide +kernel
theorem pn_4 : plainName "java/lang/String" = true := by first | (simp [plainName, overriddenIn]; done) | decide +kernel
theorem ef_4 (m : MethodId) (x0 : Addr) (x1 : Addr) : entryFrame m #[(.ref x0), (.ref x1), (.int (0 : Int32))] 3 = mkF m 0 #[.val (.ref x0), .val (.ref x1), .val (.int (0 : Int32))] [] := by first | (simp [entryFrame, mkF, argsToLocals, Value.category]; done) | rfl
def Q4 (Z : State) (a0 : Addr) (a1 : Addr) (u_value_a0 : Value) (u_coder_a0 : Value) (h0 : Heap) (n0 : Nat) (v : Option Value) (h : Heap) (L : List Loc) : Prop := v = none ∧ Fr n0 L ∧ Keep h0 h [a0] ∧ Exa Z h a0 "java/lang/String" ∧ Fld Z h a0 "java/lang/String" "value" "[B" (.ref a1) ∧ Fld Z h a0 "java/lang/String" "coder" "B" (.int (0 : Int32))
set_option maxRecDepth 65536 in
set_option maxHeartbeats 40000000 in
theorem rm4 (l : Launch) (Z : State) (az : Array Value) (hw : ∀ d ∈ tables_1, d.before az Z = true) (ws : List Jvm.Cond) (a0 : Addr) (a1 : Addr) (u_value_a0 : Value) (u_coder_a0 : Value) (h0 : Heap) (n0 : Nat) (Z0 : n0 ≤ h0.size) (E_a0 : Exa Z h0 a0 "java/lang/String") (F_value_a0 : Fld Z h0 a0 "java/lang/String" "value" "[B" u_value_a0) (gn_a0 : n0 ≤ a0) (F_coder_a0 : Fld Z h0 a0 "java/lang/String" "coder" "B" u_coder_a0) :
    OCtr l Z (⟨"java/lang/String", "<init>", "([BB)V"⟩ : MethodName) jdk_42_method_151_code 3 none ws ({ frames := 1, cells := 0, slots := 0, locals := 12 } : Room) #[(.ref a0), (.ref a1), (.int (0 : Int32))] h0 (Q4 Z a0 a1 u_value_a0 u_coder_a0 h0 n0) := by
  refine OCtr.of (plainFor_of_name pn_4) ?_
  intro p e s m below meth c s₁ X0 hx hlk hZ hown0 hnm hby hml0 hret e0
  have hown : s.vm.findClass "java/lang/String" = some m.cls := hown0
  have hml : c.maxLocals = 3 := hml0
  have N0 := Fr.nil n0
  refine OGo.step (fun t k => castTop (ef_4 m a0 a1) k) ?_
  refine OGo.step (F' := s₁.setTop (mkF m 1 #[.val (.ref a0), .val (.ref a1), .val (.int (0 : Int32))] [(.ref a0)])) (fun t kt => ?_) ?_
  · show Steps p.tables e below (s₁.setTop (mkF m 0 #[.val (.ref a0), .val (.ref a1), .val (.int (0 : Int32))] [])) t
    refine XS.aloadN X0.here hx rfl (hb hby d4_0) rfl rfl ?_
    exact kt
  obtain ⟨T1, X1, e1, st1⟩ := initO X0 hx hZ hown (own_wd hw 21 rfl) (own_wd hw 22 rfl) (own_wd hw 23 rfl) e0 (g := (mkF m 1 #[.val (.ref a0), .val (.ref a1), .val (.int (0 : Int32))] [(.ref a0)])) rfl (by rw [hml]; rfl) rfl (hb hby d4_1) (by decide) (W := 0) (by show 2 * 0 + _ ≤ _; exact Nat.le_of_eq rfl) (by decide)
  refine OGo.step st1 ?_
  show OGo _ _ _ _ _ _ _ (T1.setTop (mkF m 4 #[.val (.ref a0), .val (.ref a1), .val (.int (0 : Int32))] []))
  refine OGo.step (F' := T1.setTop (mkF m 6 #[.val (.ref a0), .val (.ref a1), .val (.int (0 : Int32))] [(.ref a1), (.ref a0)])) (fun t kt => ?_) ?_
  · show Steps p.tables e below (T1.setTop (mkF m 4 #[.val (.ref a0), .val (.ref a1), .val (.int (0 : Int32))] [])) t
    refine XS.aloadN X1.here hx rfl (hb hby d4_4) rfl rfl ?_
    show Steps p.tables e below (T1.setTop (mkF m 5 #[.val (.ref a0), .val (.ref a1), .val (.int (0 : Int32))] [(.ref a0)])) t
    refine XS.aloadN X1.here hx rfl (hb hby d4_5) rfl rfl ?_
    exact kt
  obtain ⟨T2, h2, X2, e2, W2, st2⟩ := putF X1 hx hZ hown (host := "") (Or.inl (own_wd hw 24 rfl)) Via.refl e1 F_value_a0 E_a0 (Or.inr ⟨(own_wd hw 25 rfl), rfl, hnm⟩) (own_wd hw 12 rfl) (ty := (.array .byte)) (by decide) rfl rfl (g := (mkF m 6 #[.val (.ref a0), .val (.ref a1), .val (.int (0 : Int32))] [(.ref a1), (.ref a0)])) rfl rfl (hb hby d4_6)
  have Fw2 : Fld Z h2 a0 "java/lang/String" "value" "[B" (.ref a1) := F_value_a0.same W2
  have KC2 : Keep h0 h2 [a0] := (Keep.refl h0 [a0]).wr W2 (Or.inl (List.mem_of_getElem? (i := 0) rfl))
  have N2 := Fr.snoc X2 N0 gn_a0
  refine OGo.step st2 ?_
  show OGo _ _ _ _ _ _ _ (T2.setTop (mkF m 9 #[.val (.ref a0), .val (.ref a1), .val (.int (0 : Int32))] []))
  refine OGo.step (F' := T2.setTop (mkF m 11 #[.val (.ref a0), .val (.ref a1), .val (.int (0 : Int32))] [(.int (0 : Int32)), (.ref a0)])) (fun t kt => ?_) ?_
  · show Steps p.tables e below (T2.setTop (mkF m 9 #[.val (.ref a0), .val (.ref a1), .val (.int (0 : Int32))] [])) t
    refine XS.aloadN X2.here hx rfl (hb hby d4_9) rfl rfl ?_
    show Steps p.tables e below (T2.setTop (mkF m 10 #[.val (.ref a0), .val (.ref a1), .val (.int (0 : Int32))] [(.ref a0)])) t
    refine XS.iloadN X2.here hx rfl (hb hby d4_10) rfl ?_
    exact kt
  obtain ⟨T3, h3, X3, e3, W3, st3⟩ := putFN X2 hx hZ hown (own_wd hw 26 rfl) Via.refl e2 (F_coder_a0.other W2 (Or.inr (slot_ne (a0 := az) (Or.inr (own_wd hw 27 rfl)) (Or.inr (own_wd hw 25 rfl)) (by decide) (t := .byte) (t' := (.array .byte)) (by decide) (by decide)))) (E_a0.wr W2) (Or.inr ⟨(own_wd hw 27 rfl), rfl, hnm⟩) (own_wd hw 12 rfl) (ty := .byte) (v := (.int (0 : Int32))) (v' := (.int (0 : Int32))) (by decide) rfl (by decide) (g := (mkF m 11 #[.val (.ref a0), .val (.ref a1), .val (.int (0 : Int32))] [(.int (0 : Int32)), (.ref a0)])) rfl rfl (hb hby d4_11)
  have Fw3 : Fld Z h3 a0 "java/lang/String" "coder" "B" (.int (0 : Int32)) := (F_coder_a0.other W2 (Or.inr (slot_ne (a0 := az) (Or.inr (own_wd hw 27 rfl)) (Or.inr (own_wd hw 25 rfl)) (by decide) (t := .byte) (t' := (.array .byte)) (by decide) (by decide)))).same W3
  have KC3 : Keep h0 h3 [a0] := KC2.wr W3 (Or.inl (List.mem_of_getElem? (i := 0) rfl))
  have N3 := Fr.snoc X3 N2 gn_a0
  refine OGo.step st3 ?_
  show OGo _ _ _ _ _ _ _ (T3.setTop (mkF m 14 #[.val (.ref a0), .val (.ref a1), .val (.int (0 : Int32))] []))
  refine OGo.retV X3 hx hlk hret (hb hby d4_14) ?_ (by decide) (by decide)
  show Q4 Z a0 a1 u_value_a0 u_coder_a0 h0 n0 _ T3.heap _
  rw [e3]
  exact ⟨rfl, N3, KC3, ((E_a0.wr W2).wr W3), (Fw2.other W3 (Or.inr (slot_ne (a0 := az) (Or.inr (own_wd hw 25 rfl)) (Or.inr (own_wd hw 27 rfl)) (by decide) (t := (.array .byte)) (t' := .byte) (by decide) (by decide)))), Fw3⟩
/-! body 1: java/lang/String.valueOf:(C)Ljava/lang/String; -/
theorem d1_0 : decode jdk_42_method_139_code 0 = .ok (.getstatic 38, 3) := by decide +kernel
theorem d1_3 : decode jdk_42_method_139_code 3 = .ok (.ifCond .eq 23, 3) := by decide +kernel
theorem d1_6 : decode jdk_42_method_139_code 6 = .ok (.iload_n 0, 1) := by decide +kernel
theorem d1_7 : decode jdk_42_method_139_code 7 = .ok (.invokestatic 1015, 3) := by decide +kernel
theorem d1_10 : decode jdk_42_method_139_code 10 = .ok (.ifCond .eq 16, 3) := by decide +kernel
theorem d1_13 : decode jdk_42_method_139_code 13 = .ok (.new 10, 3) := by decide +kernel
theorem d1_16 : decode jdk_42_method_139_code 16 = .ok (.dup, 1) := by decide +kernel
theorem d1_17 : decode jdk_42_method_139_code 17 = .ok (.iload_n 0, 1) := by decide +kernel
theorem d1_18 : decode jdk_42_method_139_code 18 = .ok (.invokestatic 1018, 3) := by decide +kernel
theorem d1_21 : decode jdk_42_method_139_code 21 = .ok (.iconst 0, 1) := by decide +kernel
theorem d1_22 : decode jdk_42_method_139_code 22 = .ok (.invokespecial 209, 3) := by decide +kernel
theorem d1_25 : decode jdk_42_method_139_code 25 = .ok (.areturn, 1) := by decide +kernel
theorem pn_1 : plainName "java/lang/String" = true := by first | (simp [plainName, overriddenIn]; done) | decide +kernel
theorem pd_1_0 : parseMethodDescriptor "(C)Z" = some ⟨[.char], some .boolean⟩ := by decide +kernel
theorem pd_1_1 : parseMethodDescriptor "(C)[B" = some ⟨[.char], some (.array .byte)⟩ := by decide +kernel
theorem pd_1_2 : parseMethodDescriptor "([BB)V" = some ⟨[(.array .byte), .byte], none⟩ := by decide +kernel
theorem ef_1 (m : MethodId) (x0 : Int32) : entryFrame m #[(.int x0)] 1 = mkF m 0 #[.val (.int x0)] [] := by first | (simp [entryFrame, mkF, argsToLocals, Value.category]; done) | rfl
def Q1 (Z : State) (p0 : Int32) (w_COMPACT_STRINGS : Int32) (h0 : Heap) (n0 : Nat) (v : Option Value) (h : Heap) (L : List Loc) : Prop := ∃ r : Addr, ∃ t : Addr, v = some (.ref r) ∧ Fr n0 L ∧ Keep h0 h [] ∧ h0.size ≤ r ∧ h0.size ≤ t ∧ Exa Z h r "java/lang/String" ∧ Fld Z h r "java/lang/String" "value" "[B" (.ref t) ∧ Fld Z h r "java/lang/String" "coder" "B" (.int (0 : Int32)) ∧ OBy Z h t (own_by p0)
set_option maxRecDepth 65536 in
set_option maxHeartbeats 40000000 in
theorem rm1 (l : Launch) (Z : State) (az : Array Value) (hw : ∀ d ∈ tables_1, d.before az Z = true) (ws : List Jvm.Cond) (p0 : Int32) (w_COMPACT_STRINGS : Int32) (h0 : Heap) (n0 : Nat) (Z0 : n0 ≤ h0.size) (h255 : ¬ ((255 : Int32) < p0)) (hC : ¬ (w_COMPACT_STRINGS = (0 : Int32))) (S_String_COMPACT_STRINGS : Sta Z h0 "java/lang/String" "COMPACT_STRINGS" "Z" (.int w_COMPACT_STRINGS)) :
    OCtr l Z (⟨"java/lang/String", "valueOf", "(C)Ljava/lang/String;"⟩ : MethodName) jdk_42_method_139_code 1 (some (.object "java/lang/String")) ws ({ frames := 2, cells := 2, slots := 5, locals := 27 } : Room) #[(.int p0)] h0 (Q1 Z p0 w_COMPACT_STRINGS h0 n0) := by
  refine OCtr.of (plainFor_of_name pn_1) ?_
  intro p e s m below meth c s₁ X0 hx hlk hZ hown0 hnm hby hml0 hret e0
  have hown : s.vm.findClass "java/lang/String" = some m.cls := hown0
  have hml : c.maxLocals = 1 := hml0
  have N0 := Fr.nil n0
  refine OGo.step (fun t k => castTop (ef_1 m p0) k) ?_
  obtain ⟨T1, X1, e1, st1⟩ := getS2 X0 hx hZ hown (host := "") (Or.inl (own_wd hw 6 rfl)) Via.refl e0 S_String_COMPACT_STRINGS (g := (mkF m 0 #[.val (.int p0)] [])) rfl (hb hby d1_0)
  refine OGo.step st1 ?_
  show OGo _ _ _ _ _ _ _ (T1.setTop (mkF m 3 #[.val (.int p0)] [(.int w_COMPACT_STRINGS)]))
  refine OGo.step (F' := T1.setTop (mkF m 7 #[.val (.int p0)] [(.int p0)])) (fun t kt => ?_) ?_
  · show Steps p.tables e below (T1.setTop (mkF m 3 #[.val (.int p0)] [(.int w_COMPACT_STRINGS)])) t
    refine XS.ifNo X1.here hx rfl (hb hby d1_3) rfl ((if0 _ _).trans (feq hC).1) ?_
    show Steps p.tables e below (T1.setTop (mkF m 6 #[.val (.int p0)] [])) t
    refine XS.iloadN X1.here hx rfl (hb hby d1_6) rfl ?_
    exact kt
  refine OGo.callS X1 hx hZ (y := (⟨"java/lang/StringLatin1", "canEncode", "(C)Z"⟩ : MethodName)) hown (own_wd hw 7 rfl) (own_wd hw 8 rfl) (own_wd hw 9 rfl) (own_wd hw 10 rfl) (by decide) (rm2 l Z az hw [] p0 h0 n0 Z0) (W := 0) (by decide) (by decide) (g := (mkF m 7 #[.val (.int p0)] [(.int p0)])) rfl (by rw [hml]; rfl) (argsL := [(.int p0)]) (rest := []) (lenOf pd_1_0 rfl) rfl (by show 2 * 0 + _ ≤ _; exact Nat.le_of_eq rfl) (hb hby d1_7) rfl e1 (by decide) (by decide) ?_
  rintro _ T2 L2 X2 ⟨hv2, Nq2, e2⟩
  have N2 := Fr.app N0 Nq2
  rw [show f2 p0 = (1 : Int32) from if_neg h255] at hv2
  subst hv2
  show OGo _ _ _ _ _ _ _ (T2.setTop (mkF m 10 #[.val (.int p0)] [(.int (1 : Int32))]))
  refine OGo.step (F' := T2.setTop (mkF m 13 #[.val (.int p0)] [])) (fun t kt => ?_) ?_
  · show Steps p.tables e below (T2.setTop (mkF m 10 #[.val (.int p0)] [(.int (1 : Int32))])) t
    refine XS.ifNo X2.here hx rfl (hb hby d1_10) rfl ((if0 _ _).trans (feq (by decide : ¬ ((1 : Int32) = (0 : Int32)))).1) ?_
    exact kt
  obtain ⟨T3, h3, X3, e3, E3, A3, D3, -, st3⟩ := newO X2 hx hZ hown (own_wd hw 11 rfl) (own_wd hw 12 rfl) (own_wd hw 4 rfl) e2 (g := (mkF m 13 #[.val (.int p0)] [])) rfl (hb hby d1_13) (by decide) (by decide)
  obtain ⟨b3, g3⟩ : ∃ z, z = h0.size := ⟨_, rfl⟩
  rw [← g3] at A3 D3 st3
  have sz_b3 : h0.size ≤ b3 := Nat.le_trans (Keep.refl h0 []).1 (Nat.le_of_eq g3.symm)
  have gn_b3 : n0 ≤ b3 := Nat.le_trans Z0 sz_b3
  have KC3 : Keep h0 h3 [] := (Keep.refl h0 []).ext E3
  have F3_value : Fld Z h3 b3 "java/lang/String" "value" "[B" .null := D3 (Or.inr (own_wd hw 25 rfl)) (ty := (.array .byte)) (by decide)
  have F3_coder : Fld Z h3 b3 "java/lang/String" "coder" "B" (.int (0 : Int32)) := D3 (Or.inr (own_wd hw 27 rfl)) (ty := .byte) (by decide)
  refine OGo.step st3 ?_
  show OGo _ _ _ _ _ _ _ (T3.setTop (mkF m 16 #[.val (.int p0)] [(.ref b3)]))
  refine OGo.step (F' := T3.setTop (mkF m 18 #[.val (.int p0)] [(.int p0), (.ref b3), (.ref b3)])) (fun t kt => ?_) ?_
  · show Steps p.tables e below (T3.setTop (mkF m 16 #[.val (.int p0)] [(.ref b3)])) t
    refine XS.dup X3.here hx rfl (hb hby d1_16) rfl rfl ?_
    show Steps p.tables e below (T3.setTop (mkF m 17 #[.val (.int p0)] [(.ref b3), (.ref b3)])) t
    refine XS.iloadN X3.here hx rfl (hb hby d1_17) rfl ?_
    exact kt
  refine OGo.callS X3 hx hZ (y := (⟨"java/lang/StringLatin1", "toBytes", "(C)[B"⟩ : MethodName)) hown (own_wd hw 13 rfl) (own_wd hw 14 rfl) (own_wd hw 9 rfl) (own_wd hw 15 rfl) (by decide) (rm3 l Z az hw [] p0 h3 n0 (Nat.le_trans Z0 KC3.1)) (W := 2) (by decide) (by decide) (g := (mkF m 18 #[.val (.int p0)] [(.int p0), (.ref b3), (.ref b3)])) rfl (by rw [hml]; rfl) (argsL := [(.int p0)]) (rest := [(.ref b3), (.ref b3)]) (lenOf pd_1_1 rfl) rfl (by show 2 * 0 + _ ≤ _; exact Nat.le_of_eq rfl) (hb hby d1_18) rfl e3 (by decide) (by decide) ?_
  rintro _ T4 L4 X4 ⟨b4_t, rfl, Nq4, K4, sz_b4_t, P4_0⟩
  have KC4 : Keep h0 T4.heap [] := KC3.trans K4 all0
  have szo_b4_t := sz_b4_t
  replace sz_b4_t : h0.size ≤ b4_t := Nat.le_trans KC3.1 sz_b4_t
  have gn_b4_t : n0 ≤ b4_t := Nat.le_trans Z0 sz_b4_t
  have N4 := Fr.app N2 Nq4
  show OGo _ _ _ _ _ _ _ (T4.setTop (mkF m 21 #[.val (.int p0)] [(.ref b4_t), (.ref b3), (.ref b3)]))
  refine OGo.step (F' := T4.setTop (mkF m 22 #[.val (.int p0)] [(.int (0 : Int32)), (.ref b4_t), (.ref b3), (.ref b3)])) (fun t kt => ?_) ?_
  · show Steps p.tables e below (T4.setTop (mkF m 21 #[.val (.int p0)] [(.ref b4_t), (.ref b3), (.ref b3)])) t
    refine XS.iconst X4.here hx rfl (hb hby d1_21) ?_
    exact kt
  refine OGo.callC X4 hx hZ (y := (⟨"java/lang/String", "<init>", "([BB)V"⟩ : MethodName)) rfl hown (own_wd hw 17 rfl) (own_wd hw 18 rfl) (own_wd hw 4 rfl) (own_wd hw 20 rfl) (by decide) (rm4 l Z az hw [] b3 b4_t .null (.int (0 : Int32)) T4.heap n0 (Nat.le_trans Z0 KC4.1) (A3.keep K4) (F3_value.keep K4 nin0) gn_b3 (F3_coder.keep K4 nin0)) (W := 1) (by decide) (by decide) (b := b3) (g := (mkF m 22 #[.val (.int p0)] [(.int (0 : Int32)), (.ref b4_t), (.ref b3), (.ref b3)])) rfl (by rw [hml]; rfl) (argsL := [(.ref b4_t), (.int (0 : Int32))]) (rest := [(.ref b3)]) (lenOf pd_1_2 rfl) rfl (by show 2 * 0 + _ ≤ _; exact Nat.le_of_eq rfl) (hb hby d1_22) rfl rfl (by decide) (by decide) ?_
  rintro _ T5 L5 X5 ⟨rfl, Nq5, K5, P5_0, P5_1, P5_2⟩
  have KC5 : Keep h0 T5.heap [] := KC4.trans K5 (allS (Or.inr sz_b3) all0)
  have N5 := Fr.app N4 Nq5
  show OGo _ _ _ _ _ _ _ (T5.setTop (mkF m 25 #[.val (.int p0)] [(.ref b3)]))
  refine OGo.retA X5 hx hlk (t := (.object "java/lang/String")) hret rfl rfl rfl (hb hby d1_25) ?_ (by decide) (by decide)
  show Q1 Z p0 w_COMPACT_STRINGS h0 n0 _ T5.heap _
  exact ⟨b3, b4_t, rfl, N5, KC5, sz_b3, sz_b4_t, P5_0, P5_1, P5_2, (P4_0.keep K5 (ninS (Ne.symm (Nat.ne_of_lt (Nat.lt_of_lt_of_le A3.lt szo_b4_t))) nin0))⟩
/-! body 8: java/lang/StringLatin1.equals:([B[B)Z -/
theorem d8_0 : decode jdk_43_method_13_code 0 = .ok (.aload_n 0, 1) := by decide +kernel
theorem d8_1 : decode jdk_43_method_13_code 1 = .ok (.arraylength, 1) := by decide +kernel
theorem d8_2 : decode jdk_43_method_13_code 2 = .ok (.aload_n 1, 1) := by decide +kernel
theorem d8_3 : decode jdk_43_method_13_code 3 = .ok (.arraylength, 1) := by decide +kernel
theorem d8_4 : decode jdk_43_method_13_code 4 = .ok (.if_icmp .ne 30, 3) := by decide +kernel
theorem d8_7 : decode jdk_43_method_13_code 7 = .ok (.iconst 0, 1) := by decide +kernel
theorem d8_8 : decode jdk_43_method_13_code 8 = .ok (.istore_n 2, 1) := by decide +kernel
theorem d8_9 : decode jdk_43_method_13_code 9 = .ok (.iload_n 2, 1) := by decide +kernel
theorem d8_10 : decode jdk_43_method_13_code 10 = .ok (.aload_n 0, 1) := by decide +kernel
theorem d8_11 : decode jdk_43_method_13_code 11 = .ok (.arraylength, 1) := by decide +kernel
theorem d8_12 : decode jdk_43_method_13_code 12 = .ok (.if_icmp .ge 20, 3) := by decide +kernel
theorem d8_15 : decode jdk_43_method_13_code 15 = .ok (.aload_n 0, 1) := by decide +kernel
theorem d8_16 : decode jdk_43_method_13_code 16 = .ok (.iload_n 2, 1) := by decide +kernel
theorem d8_17 : decode jdk_43_method_13_code 17 = .ok (.baload, 1) := by decide +kernel
theorem d8_18 : decode jdk_43_method_13_code 18 = .ok (.aload_n 1, 1) := by decide +kernel
theorem d8_19 : decode jdk_43_method_13_code 19 = .ok (.iload_n 2, 1) := by decide +kernel
theorem d8_20 : decode jdk_43_method_13_code 20 = .ok (.baload, 1) := by decide +kernel
theorem d8_21 : decode jdk_43_method_13_code 21 = .ok (.if_icmp .eq 5, 3) := by decide +kernel
theorem d8_24 : decode jdk_43_method_13_code 24 = .ok (.iconst 0, 1) := by decide +kernel
theorem d8_25 : decode jdk_43_method_13_code 25 = .ok (.ireturn, 1) := by decide +kernel
theorem d8_26 : decode jdk_43_method_13_code 26 = .ok (.iinc 2 1, 3) := by decide +kernel
theorem d8_29 : decode jdk_43_method_13_code 29 = .ok (.goto (-20), 3) := by decide +kernel
theorem d8_32 : decode jdk_43_method_13_code 32 = .ok (.iconst 1, 1) := by decide +kernel
theorem d8_33 : decode jdk_43_method_13_code 33 = .ok (.ireturn, 1) := by decide +kernel
theorem pn_8 : plainName "java/lang/StringLatin1" = true := by first | (simp [plainName, overriddenIn]; done) | decide +kernel
theorem ef_8 (m : MethodId) (x0 : Addr) (x1 : Addr) : entryFrame m #[(.ref x0), (.ref x1)] 3 = mkF m 0 #[.val (.ref x0), .val (.ref x1), .unset] [] := by first | (simp [entryFrame, mkF, argsToLocals, Value.category]; done) | rfl
def f8 (b0 : Int32) (b1 : Int32) : Int32 :=
  if b0 = b1 then (1 : Int32)
  else (0 : Int32)
theorem fb8 (b0 : Int32) (b1 : Int32) : nar .boolean (f8 b0 b1) = (f8 b0 b1) := by
  unfold f8
  repeat' split
  all_goals first | rfl | decide
set_option maxRecDepth 65536 in
set_option maxHeartbeats 40000000 in
theorem rm8 (l : Launch) (Z : State) (az : Array Value) (hw : ∀ d ∈ tables_1, d.before az Z = true) (ws : List Jvm.Cond) (a0 : Addr) (a1 : Addr) (b0 : Int32) (b1 : Int32) (h0 : Heap) (n0 : Nat) (Z0 : n0 ≤ h0.size) (O_a0 : OBy Z h0 a0 b0) (O_a1 : OBy Z h0 a1 b1) :
    OCtr l Z (⟨"java/lang/StringLatin1", "equals", "([B[B)Z"⟩ : MethodName) jdk_43_method_13_code 3 (some .boolean) ws ({ frames := 0, cells := 0, slots := 0, locals := 0 } : Room) #[(.ref a0), (.ref a1)] h0 (OPure (some (.int (f8 b0 b1))) h0 n0) := by
  refine OCtr.of (plainFor_of_name pn_8) ?_
  intro p e s m below meth c s₁ X0 hx hlk hZ hown0 hnm hby hml0 hret e0
  have hown : s.vm.findClass "java/lang/StringLatin1" = some m.cls := hown0
  have hml : c.maxLocals = 3 := hml0
  have N0 := Fr.nil n0
  refine OGo.step (fun t k => castTop (ef_8 m a0 a1) k) ?_
  obtain ⟨k0, V00⟩ := O_a0
  obtain ⟨k1, V01⟩ := O_a1
  refine OGo.step (F' := s₁.setTop (mkF m 1 #[.val (.ref a0), .val (.ref a1), .unset] [(.ref a0)])) (fun t kt => ?_) ?_
  · show Steps p.tables e below (s₁.setTop (mkF m 0 #[.val (.ref a0), .val (.ref a1), .unset] [])) t
    refine XS.aloadN X0.here hx rfl (hb hby d8_0) rfl rfl ?_
    exact kt
  obtain ⟨cl1, Ar1, q1, S1, N1a, H1, G1⟩ := id (V00)
  refine OGo.step (F' := s₁.setTop (mkF m 2 #[.val (.ref a0), .val (.ref a1), .unset] [(.int (1 : Int32))])) (fun t kt => ?_) ?_
  · show Steps p.tables e below (s₁.setTop (mkF m 1 #[.val (.ref a0), .val (.ref a1), .unset] [(.ref a0)])) t
    refine X0.arraylength hx (by rw [e0]; exact Ar1.1) (State.isArrayOf_alike hZ.alike Ar1.2.1) (g := (mkF m 1 #[.val (.ref a0), .val (.ref a1), .unset] [(.ref a0)])) rfl rfl (hb hby d8_1) _ ?_
    rw [len_of S1 N1a]
    exact kt
  refine OGo.step (F' := s₁.setTop (mkF m 3 #[.val (.ref a0), .val (.ref a1), .unset] [(.ref a1), (.int (1 : Int32))])) (fun t kt => ?_) ?_
  · show Steps p.tables e below (s₁.setTop (mkF m 2 #[.val (.ref a0), .val (.ref a1), .unset] [(.int (1 : Int32))])) t
    refine XS.aloadN X0.here hx rfl (hb hby d8_2) rfl rfl ?_
    exact kt
  obtain ⟨cl2, Ar2, q2, S2, N2a, H2, G2⟩ := id (V01)
  refine OGo.step (F' := s₁.setTop (mkF m 4 #[.val (.ref a0), .val (.ref a1), .unset] [(.int (1 : Int32)), (.int (1 : Int32))])) (fun t kt => ?_) ?_
  · show Steps p.tables e below (s₁.setTop (mkF m 3 #[.val (.ref a0), .val (.ref a1), .unset] [(.ref a1), (.int (1 : Int32))])) t
    refine X0.arraylength hx (by rw [e0]; exact Ar2.1) (State.isArrayOf_alike hZ.alike Ar2.2.1) (g := (mkF m 3 #[.val (.ref a0), .val (.ref a1), .unset] [(.ref a1), (.int (1 : Int32))])) rfl rfl (hb hby d8_3) _ ?_
    rw [len_of S2 N2a]
    exact kt
  refine OGo.step (F' := s₁.setTop (mkF m 11 #[.val (.ref a0), .val (.ref a1), .val (.int (0 : Int32))] [(.ref a0), (.int (0 : Int32))])) (fun t kt => ?_) ?_
  · show Steps p.tables e below (s₁.setTop (mkF m 4 #[.val (.ref a0), .val (.ref a1), .unset] [(.int (1 : Int32)), (.int (1 : Int32))])) t
    refine XS.icmpNo X0.here hx rfl (hb hby d8_4) rfl (teq (by decide : (1 : Int32) = (1 : Int32))).2 ?_
    show Steps p.tables e below (s₁.setTop (mkF m 7 #[.val (.ref a0), .val (.ref a1), .unset] [])) t
    refine XS.iconst X0.here hx rfl (hb hby d8_7) ?_
    show Steps p.tables e below (s₁.setTop (mkF m 8 #[.val (.ref a0), .val (.ref a1), .unset] [(.int (0 : Int32))])) t
    refine XS.istoreN X0.here hx rfl (hb hby d8_8) rfl (l' := #[.val (.ref a0), .val (.ref a1), .val (.int (0 : Int32))]) rfl ?_
    show Steps p.tables e below (s₁.setTop (mkF m 9 #[.val (.ref a0), .val (.ref a1), .val (.int (0 : Int32))] [])) t
    refine XS.iloadN X0.here hx rfl (hb hby d8_9) rfl ?_
    show Steps p.tables e below (s₁.setTop (mkF m 10 #[.val (.ref a0), .val (.ref a1), .val (.int (0 : Int32))] [(.int (0 : Int32))])) t
    refine XS.aloadN X0.here hx rfl (hb hby d8_10) rfl rfl ?_
    exact kt
  obtain ⟨cl3, Ar3, q3, S3, N3a, H3, G3⟩ := id (V00)
  refine OGo.step (F' := s₁.setTop (mkF m 12 #[.val (.ref a0), .val (.ref a1), .val (.int (0 : Int32))] [(.int (1 : Int32)), (.int (0 : Int32))])) (fun t kt => ?_) ?_
  · show Steps p.tables e below (s₁.setTop (mkF m 11 #[.val (.ref a0), .val (.ref a1), .val (.int (0 : Int32))] [(.ref a0), (.int (0 : Int32))])) t
    refine X0.arraylength hx (by rw [e0]; exact Ar3.1) (State.isArrayOf_alike hZ.alike Ar3.2.1) (g := (mkF m 11 #[.val (.ref a0), .val (.ref a1), .val (.int (0 : Int32))] [(.ref a0), (.int (0 : Int32))])) rfl rfl (hb hby d8_11) _ ?_
    rw [len_of S3 N3a]
    exact kt
  refine OGo.step (F' := s₁.setTop (mkF m 17 #[.val (.ref a0), .val (.ref a1), .val (.int (0 : Int32))] [(.int (0 : Int32)), (.ref a0)])) (fun t kt => ?_) ?_
  · show Steps p.tables e below (s₁.setTop (mkF m 12 #[.val (.ref a0), .val (.ref a1), .val (.int (0 : Int32))] [(.int (1 : Int32)), (.int (0 : Int32))])) t
    refine XS.icmpNo X0.here hx rfl (hb hby d8_12) rfl (tlt (by decide : (0 : Int32) < (1 : Int32))).2.1 ?_
    show Steps p.tables e below (s₁.setTop (mkF m 15 #[.val (.ref a0), .val (.ref a1), .val (.int (0 : Int32))] [])) t
    refine XS.aloadN X0.here hx rfl (hb hby d8_15) rfl rfl ?_
    show Steps p.tables e below (s₁.setTop (mkF m 16 #[.val (.ref a0), .val (.ref a1), .val (.int (0 : Int32))] [(.ref a0)])) t
    refine XS.iloadN X0.here hx rfl (hb hby d8_16) rfl ?_
    exact kt
  obtain ⟨cl4, Ar4, q4, S4, N4a, H4, G4⟩ := id (V00)
  have hin4 : ¬ ((0 : Int32) < 0 ∨ cl4.slots.size ≤ ((0 : Int32)).toNatClampNeg) := inb_of S4 ⟨by decide, by decide⟩
  have hat4 : cl4.slots[((0 : Int32)).toNatClampNeg]? = some (.int b0) := H4.at hin4 rfl
  refine OGo.step (F' := s₁.setTop (mkF m 18 #[.val (.ref a0), .val (.ref a1), .val (.int (0 : Int32))] [(.int b0)])) (fun t kt => ?_) ?_
  · show Steps p.tables e below (s₁.setTop (mkF m 17 #[.val (.ref a0), .val (.ref a1), .val (.int (0 : Int32))] [(.int (0 : Int32)), (.ref a0)])) t
    refine X0.baloadBytes hx (j := (0 : Int32)) (v := (.int b0)) (by rw [e0]; exact Ar4.1) (State.isArrayOf_alike hZ.alike Ar4.2.1) Ar4.2.2 hin4 hat4 (g := (mkF m 17 #[.val (.ref a0), .val (.ref a1), .val (.int (0 : Int32))] [(.int (0 : Int32)), (.ref a0)])) rfl rfl (hb hby d8_17) _ ?_
    exact kt
  refine OGo.step (F' := s₁.setTop (mkF m 20 #[.val (.ref a0), .val (.ref a1), .val (.int (0 : Int32))] [(.int (0 : Int32)), (.ref a1), (.int b0)])) (fun t kt => ?_) ?_
  · show Steps p.tables e below (s₁.setTop (mkF m 18 #[.val (.ref a0), .val (.ref a1), .val (.int (0 : Int32))] [(.int b0)])) t
    refine XS.aloadN X0.here hx rfl (hb hby d8_18) rfl rfl ?_
    show Steps p.tables e below (s₁.setTop (mkF m 19 #[.val (.ref a0), .val (.ref a1), .val (.int (0 : Int32))] [(.ref a1), (.int b0)])) t
    refine XS.iloadN X0.here hx rfl (hb hby d8_19) rfl ?_
    exact kt
  obtain ⟨cl5, Ar5, q5, S5, N5a, H5, G5⟩ := id (V01)
  have hin5 : ¬ ((0 : Int32) < 0 ∨ cl5.slots.size ≤ ((0 : Int32)).toNatClampNeg) := inb_of S5 ⟨by decide, by decide⟩
  have hat5 : cl5.slots[((0 : Int32)).toNatClampNeg]? = some (.int b1) := H5.at hin5 rfl
  refine OGo.step (F' := s₁.setTop (mkF m 21 #[.val (.ref a0), .val (.ref a1), .val (.int (0 : Int32))] [(.int b1), (.int b0)])) (fun t kt => ?_) ?_
  · show Steps p.tables e below (s₁.setTop (mkF m 20 #[.val (.ref a0), .val (.ref a1), .val (.int (0 : Int32))] [(.int (0 : Int32)), (.ref a1), (.int b0)])) t
    refine X0.baloadBytes hx (j := (0 : Int32)) (v := (.int b1)) (by rw [e0]; exact Ar5.1) (State.isArrayOf_alike hZ.alike Ar5.2.1) Ar5.2.2 hin5 hat5 (g := (mkF m 20 #[.val (.ref a0), .val (.ref a1), .val (.int (0 : Int32))] [(.int (0 : Int32)), (.ref a1), (.int b0)])) rfl rfl (hb hby d8_20) _ ?_
    exact kt
  by_cases hc21 : b0 = b1
  · refine OGo.step (F' := s₁.setTop (mkF m 26 #[.val (.ref a0), .val (.ref a1), .val (.int (0 : Int32))] [])) (fun t kt => ?_) ?_
    · show Steps p.tables e below (s₁.setTop (mkF m 21 #[.val (.ref a0), .val (.ref a1), .val (.int (0 : Int32))] [(.int b1), (.int b0)])) t
      refine XS.icmpYes X0.here hx rfl (pc0 := 21) (pc' := 26) rfl (hb hby d8_21) rfl (teq hc21).1 (by decide) (by decide) ?_
      exact kt
    refine OGo.step (F' := s₁.setTop (mkF m 11 #[.val (.ref a0), .val (.ref a1), .val (.int (1 : Int32))] [(.ref a0), (.int (1 : Int32))])) (fun t kt => ?_) ?_
    · show Steps p.tables e below (s₁.setTop (mkF m 26 #[.val (.ref a0), .val (.ref a1), .val (.int (0 : Int32))] [])) t
      refine XS.iinc X0.here hx rfl (hb hby d8_26) rfl (l' := #[.val (.ref a0), .val (.ref a1), .val (.int (1 : Int32))]) rfl ?_
      show Steps p.tables e below (s₁.setTop (mkF m 29 #[.val (.ref a0), .val (.ref a1), .val (.int (1 : Int32))] [])) t
      refine XS.goto X0.here hx rfl (pc0 := 29) (pc' := 9) rfl (hb hby d8_29) (by decide) (by decide) ?_
      show Steps p.tables e below (s₁.setTop (mkF m 9 #[.val (.ref a0), .val (.ref a1), .val (.int (1 : Int32))] [])) t
      refine XS.iloadN X0.here hx rfl (hb hby d8_9) rfl ?_
      show Steps p.tables e below (s₁.setTop (mkF m 10 #[.val (.ref a0), .val (.ref a1), .val (.int (1 : Int32))] [(.int (1 : Int32))])) t
      refine XS.aloadN X0.here hx rfl (hb hby d8_10) rfl rfl ?_
      exact kt
    obtain ⟨cl6, Ar6, q6, S6, N6a, H6, G6⟩ := id (V00)
    refine OGo.step (F' := s₁.setTop (mkF m 12 #[.val (.ref a0), .val (.ref a1), .val (.int (1 : Int32))] [(.int (1 : Int32)), (.int (1 : Int32))])) (fun t kt => ?_) ?_
    · show Steps p.tables e below (s₁.setTop (mkF m 11 #[.val (.ref a0), .val (.ref a1), .val (.int (1 : Int32))] [(.ref a0), (.int (1 : Int32))])) t
      refine X0.arraylength hx (by rw [e0]; exact Ar6.1) (State.isArrayOf_alike hZ.alike Ar6.2.1) (g := (mkF m 11 #[.val (.ref a0), .val (.ref a1), .val (.int (1 : Int32))] [(.ref a0), (.int (1 : Int32))])) rfl rfl (hb hby d8_11) _ ?_
      rw [len_of S6 N6a]
      exact kt
    refine OGo.step (F' := s₁.setTop (mkF m 33 #[.val (.ref a0), .val (.ref a1), .val (.int (1 : Int32))] [(.int (1 : Int32))])) (fun t kt => ?_) ?_
    · show Steps p.tables e below (s₁.setTop (mkF m 12 #[.val (.ref a0), .val (.ref a1), .val (.int (1 : Int32))] [(.int (1 : Int32)), (.int (1 : Int32))])) t
      refine XS.icmpYes X0.here hx rfl (pc0 := 12) (pc' := 32) rfl (hb hby d8_12) rfl (flt (by decide : ¬ ((1 : Int32) < (1 : Int32)))).2.1 (by decide) (by decide) ?_
      show Steps p.tables e below (s₁.setTop (mkF m 32 #[.val (.ref a0), .val (.ref a1), .val (.int (1 : Int32))] [])) t
      refine XS.iconst X0.here hx rfl (hb hby d8_32) ?_
      exact kt
    refine OGo.retZ X0 hx hlk (t := .boolean) (z' := (1 : Int32)) hret (by simp) (hb hby d8_33) rfl ?_ (by decide) (by decide)
    exact ⟨(by rw [f8, if_pos hc21]), N0, e0⟩
  · refine OGo.step (F' := s₁.setTop (mkF m 24 #[.val (.ref a0), .val (.ref a1), .val (.int (0 : Int32))] [])) (fun t kt => ?_) ?_
    · show Steps p.tables e below (s₁.setTop (mkF m 21 #[.val (.ref a0), .val (.ref a1), .val (.int (0 : Int32))] [(.int b1), (.int b0)])) t
      refine XS.icmpNo X0.here hx rfl (hb hby d8_21) rfl (feq hc21).1 ?_
      exact kt
    refine OGo.step (F' := s₁.setTop (mkF m 25 #[.val (.ref a0), .val (.ref a1), .val (.int (0 : Int32))] [(.int (0 : Int32))])) (fun t kt => ?_) ?_
    · show Steps p.tables e below (s₁.setTop (mkF m 24 #[.val (.ref a0), .val (.ref a1), .val (.int (0 : Int32))] [])) t
      refine XS.iconst X0.here hx rfl (hb hby d8_24) ?_
      exact kt
    refine OGo.retZ X0 hx hlk (t := .boolean) (z' := (0 : Int32)) hret (by simp) (hb hby d8_25) rfl ?_ (by decide) (by decide)
    exact ⟨(by rw [f8, if_neg hc21]), N0, e0⟩
/-! body 7: java/lang/String.equals:(Ljava/lang/Object;)Z -/
theorem d7_0 : decode jdk_42_method_66_code 0 = .ok (.aload_n 0, 1) := by decide +kernel
theorem d7_1 : decode jdk_42_method_66_code 1 = .ok (.aload_n 1, 1) := by decide +kernel
theorem d7_2 : decode jdk_42_method_66_code 2 = .ok (.if_acmp .ne 5, 3) := by decide +kernel
theorem d7_5 : decode jdk_42_method_66_code 5 = .ok (.iconst 1, 1) := by decide +kernel
theorem d7_6 : decode jdk_42_method_66_code 6 = .ok (.ireturn, 1) := by decide +kernel
theorem d7_7 : decode jdk_42_method_66_code 7 = .ok (.aload_n 1, 1) := by decide +kernel
theorem d7_8 : decode jdk_42_method_66_code 8 = .ok (.instanceof 10, 3) := by decide +kernel
theorem d7_11 : decode jdk_42_method_66_code 11 = .ok (.ifCond .eq 43, 3) := by decide +kernel
theorem d7_14 : decode jdk_42_method_66_code 14 = .ok (.aload_n 1, 1) := by decide +kernel
theorem d7_15 : decode jdk_42_method_66_code 15 = .ok (.checkcast 10, 3) := by decide +kernel
theorem d7_18 : decode jdk_42_method_66_code 18 = .ok (.astore_n 2, 1) := by decide +kernel
theorem d7_19 : decode jdk_42_method_66_code 19 = .ok (.getstatic 38, 3) := by decide +kernel
theorem d7_22 : decode jdk_42_method_66_code 22 = .ok (.ifCond .eq 14, 3) := by decide +kernel
theorem d7_25 : decode jdk_42_method_66_code 25 = .ok (.aload_n 0, 1) := by decide +kernel
theorem d7_26 : decode jdk_42_method_66_code 26 = .ok (.getfield 15, 3) := by decide +kernel
theorem d7_29 : decode jdk_42_method_66_code 29 = .ok (.aload_n 2, 1) := by decide +kernel
theorem d7_30 : decode jdk_42_method_66_code 30 = .ok (.getfield 15, 3) := by decide +kernel
theorem d7_33 : decode jdk_42_method_66_code 33 = .ok (.if_icmp .ne 21, 3) := by decide +kernel
theorem d7_36 : decode jdk_42_method_66_code 36 = .ok (.aload_n 0, 1) := by decide +kernel
theorem d7_37 : decode jdk_42_method_66_code 37 = .ok (.getfield 9, 3) := by decide +kernel
theorem d7_40 : decode jdk_42_method_66_code 40 = .ok (.aload_n 2, 1) := by decide +kernel
theorem d7_41 : decode jdk_42_method_66_code 41 = .ok (.getfield 9, 3) := by decide +kernel
theorem d7_44 : decode jdk_42_method_66_code 44 = .ok (.invokestatic 541, 3) := by decide +kernel
theorem d7_47 : decode jdk_42_method_66_code 47 = .ok (.ifCond .eq 7, 3) := by decide +kernel
theorem d7_50 : decode jdk_42_method_66_code 50 = .ok (.iconst 1, 1) := by decide +kernel
theorem d7_51 : decode jdk_42_method_66_code 51 = .ok (.goto 4, 3) := by decide +kernel
theorem d7_54 : decode jdk_42_method_66_code 54 = .ok (.iconst 0, 1) := by decide +kernel
theorem d7_55 : decode jdk_42_method_66_code 55 = .ok (.ireturn, 1) := by decide +kernel
theorem pn_7 : plainName "java/lang/String" = true := by first | (simp [plainName, overriddenIn]; done) | decide +kernel
theorem pd_7_0 : parseMethodDescriptor "([B[B)Z" = some ⟨[(.array .byte), (.array .byte)], some .boolean⟩ := by decide +kernel
theorem ef_7 (m : MethodId) (x0 : Addr) (x1 : Addr) : entryFrame m #[(.ref x0), (.ref x1)] 3 = mkF m 0 #[.val (.ref x0), .val (.ref x1), .unset] [] := by first | (simp [entryFrame, mkF, argsToLocals, Value.category]; done) | rfl
def f7 (a0 : Addr) (a1 : Addr) (b0 : Int32) (b1 : Int32) : Int32 :=
  if a0 = a1 then (1 : Int32)
  else if (f8 b0 b1) = (0 : Int32) then (0 : Int32)
    else (1 : Int32)
theorem fb7 (a0 : Addr) (a1 : Addr) (b0 : Int32) (b1 : Int32) : nar .boolean (f7 a0 a1 b0 b1) = (f7 a0 a1 b0 b1) := by
  unfold f7
  repeat' split
  all_goals first | rfl | decide
set_option maxRecDepth 65536 in
set_option maxHeartbeats 40000000 in
theorem rm7 (l : Launch) (Z : State) (az : Array Value) (hw : ∀ d ∈ tables_1, d.before az Z = true) (ws : List Jvm.Cond) (a0 : Addr) (a1 : Addr) (t0 : Addr) (t1 : Addr) (b0 : Int32) (b1 : Int32) (w_COMPACT_STRINGS : Int32) (h0 : Heap) (n0 : Nat) (Z0 : n0 ≤ h0.size) (E_a1 : Exa Z h0 a1 "java/lang/String") (F_value_a0 : Fld Z h0 a0 "java/lang/String" "value" "[B" (.ref t0)) (F_value_a1 : Fld Z h0 a1 "java/lang/String" "value" "[B" (.ref t1)) (F_coder_a0 : Fld Z h0 a0 "java/lang/String" "coder" "B" (.int (0 : Int32))) (F_coder_a1 : Fld Z h0 a1 "java/lang/String" "coder" "B" (.int (0 : Int32))) (O_t0 : OBy Z h0 t0 b0) (O_t1 : OBy Z h0 t1 b1) (hC : ¬ (w_COMPACT_STRINGS = (0 : Int32))) (S_String_COMPACT_STRINGS : Sta Z h0 "java/lang/String" "COMPACT_STRINGS" "Z" (.int w_COMPACT_STRINGS)) :
    OCtr l Z (⟨"java/lang/String", "equals", "(Ljava/lang/Object;)Z"⟩ : MethodName) jdk_42_method_66_code 3 (some .boolean) ws ({ frames := 1, cells := 0, slots := 0, locals := 14 } : Room) #[(.ref a0), (.ref a1)] h0 (OPure (some (.int (f7 a0 a1 b0 b1))) h0 n0) := by
  refine OCtr.of (plainFor_of_name pn_7) ?_
  intro p e s m below meth c s₁ X0 hx hlk hZ hown0 hnm hby hml0 hret e0
  have hown : s.vm.findClass "java/lang/String" = some m.cls := hown0
  have hml : c.maxLocals = 3 := hml0
  have N0 := Fr.nil n0
  refine OGo.step (fun t k => castTop (ef_7 m a0 a1) k) ?_
  refine OGo.step (F' := s₁.setTop (mkF m 2 #[.val (.ref a0), .val (.ref a1), .unset] [(.ref a1), (.ref a0)])) (fun t kt => ?_) ?_
  · show Steps p.tables e below (s₁.setTop (mkF m 0 #[.val (.ref a0), .val (.ref a1), .unset] [])) t
    refine XS.aloadN X0.here hx rfl (hb hby d7_0) rfl rfl ?_
    show Steps p.tables e below (s₁.setTop (mkF m 1 #[.val (.ref a0), .val (.ref a1), .unset] [(.ref a0)])) t
    refine XS.aloadN X0.here hx rfl (hb hby d7_1) rfl rfl ?_
    exact kt
  by_cases hc2 : a0 = a1
  · refine OGo.step (F' := s₁.setTop (mkF m 5 #[.val (.ref a0), .val (.ref a1), .unset] [])) (fun t kt => ?_) ?_
    · show Steps p.tables e below (s₁.setTop (mkF m 2 #[.val (.ref a0), .val (.ref a1), .unset] [(.ref a1), (.ref a0)])) t
      refine Jvm.RoadKit.acmp (g := (mkF m 2 #[.val (.ref a0), .val (.ref a1), .unset] [(.ref a1), (.ref a0)])) X0 hx rfl rfl rfl (pc0 := 2) (pc' := 5) (same := true) rfl (hb hby d7_2) rfl (decide_eq_true (congrArg Value.ref hc2)) (by decide) (by decide) ?_
      exact kt
    refine OGo.step (F' := s₁.setTop (mkF m 6 #[.val (.ref a0), .val (.ref a1), .unset] [(.int (1 : Int32))])) (fun t kt => ?_) ?_
    · show Steps p.tables e below (s₁.setTop (mkF m 5 #[.val (.ref a0), .val (.ref a1), .unset] [])) t
      refine XS.iconst X0.here hx rfl (hb hby d7_5) ?_
      exact kt
    refine OGo.retZ X0 hx hlk (t := .boolean) (z' := (1 : Int32)) hret (by simp) (hb hby d7_6) rfl ?_ (by decide) (by decide)
    exact ⟨(by rw [f7, if_pos hc2]), N0, e0⟩
  · refine OGo.step (F' := s₁.setTop (mkF m 7 #[.val (.ref a0), .val (.ref a1), .unset] [])) (fun t kt => ?_) ?_
    · show Steps p.tables e below (s₁.setTop (mkF m 2 #[.val (.ref a0), .val (.ref a1), .unset] [(.ref a1), (.ref a0)])) t
      refine Jvm.RoadKit.acmp (g := (mkF m 2 #[.val (.ref a0), .val (.ref a1), .unset] [(.ref a1), (.ref a0)])) X0 hx rfl rfl rfl (pc0 := 2) (pc' := 7) (same := false) rfl (hb hby d7_2) rfl (decide_eq_false fun q => hc2 (Value.ref.inj q)) (by decide) (by decide) ?_
      exact kt
    refine OGo.step (F' := s₁.setTop (mkF m 8 #[.val (.ref a0), .val (.ref a1), .unset] [(.ref a1)])) (fun t kt => ?_) ?_
    · show Steps p.tables e below (s₁.setTop (mkF m 7 #[.val (.ref a0), .val (.ref a1), .unset] [])) t
      refine XS.aloadN X0.here hx rfl (hb hby d7_7) rfl rfl ?_
      exact kt
    obtain ⟨T1, X1, e1, st1⟩ := instY X0 hx hZ hown (own_wd hw 11 rfl) e0 (Ins.self E_a1) (g := (mkF m 8 #[.val (.ref a0), .val (.ref a1), .unset] [(.ref a1)])) rfl rfl (hb hby d7_8)
    refine OGo.step st1 ?_
    show OGo _ _ _ _ _ _ _ (T1.setTop (mkF m 11 #[.val (.ref a0), .val (.ref a1), .unset] [(.int (1 : Int32))]))
    refine OGo.step (F' := T1.setTop (mkF m 15 #[.val (.ref a0), .val (.ref a1), .unset] [(.ref a1)])) (fun t kt => ?_) ?_
    · show Steps p.tables e below (T1.setTop (mkF m 11 #[.val (.ref a0), .val (.ref a1), .unset] [(.int (1 : Int32))])) t
      refine XS.ifNo X1.here hx rfl (hb hby d7_11) rfl ((if0 _ _).trans (feq (by decide : ¬ ((1 : Int32) = (0 : Int32)))).1) ?_
      show Steps p.tables e below (T1.setTop (mkF m 14 #[.val (.ref a0), .val (.ref a1), .unset] [])) t
      refine XS.aloadN X1.here hx rfl (hb hby d7_14) rfl rfl ?_
      exact kt
    obtain ⟨T2, X2, e2, st2⟩ := castY X1 hx hZ hown (own_wd hw 11 rfl) e1 (Ins.self E_a1) (g := (mkF m 15 #[.val (.ref a0), .val (.ref a1), .unset] [(.ref a1)])) rfl rfl (hb hby d7_15)
    refine OGo.step st2 ?_
    show OGo _ _ _ _ _ _ _ (T2.setTop (mkF m 18 #[.val (.ref a0), .val (.ref a1), .unset] [(.ref a1)]))
    refine OGo.step (F' := T2.setTop (mkF m 19 #[.val (.ref a0), .val (.ref a1), .val (.ref a1)] [])) (fun t kt => ?_) ?_
    · show Steps p.tables e below (T2.setTop (mkF m 18 #[.val (.ref a0), .val (.ref a1), .unset] [(.ref a1)])) t
      refine XS.astoreN X2.here hx rfl (hb hby d7_18) rfl rfl (l' := #[.val (.ref a0), .val (.ref a1), .val (.ref a1)]) rfl ?_
      exact kt
    obtain ⟨T3, X3, e3, st3⟩ := getS2 X2 hx hZ hown (host := "") (Or.inl (own_wd hw 6 rfl)) Via.refl e2 S_String_COMPACT_STRINGS (g := (mkF m 19 #[.val (.ref a0), .val (.ref a1), .val (.ref a1)] [])) rfl (hb hby d7_19)
    refine OGo.step st3 ?_
    show OGo _ _ _ _ _ _ _ (T3.setTop (mkF m 22 #[.val (.ref a0), .val (.ref a1), .val (.ref a1)] [(.int w_COMPACT_STRINGS)]))
    refine OGo.step (F' := T3.setTop (mkF m 26 #[.val (.ref a0), .val (.ref a1), .val (.ref a1)] [(.ref a0)])) (fun t kt => ?_) ?_
    · show Steps p.tables e below (T3.setTop (mkF m 22 #[.val (.ref a0), .val (.ref a1), .val (.ref a1)] [(.int w_COMPACT_STRINGS)])) t
      refine XS.ifNo X3.here hx rfl (hb hby d7_22) rfl ((if0 _ _).trans (feq hC).1) ?_
      show Steps p.tables e below (T3.setTop (mkF m 25 #[.val (.ref a0), .val (.ref a1), .val (.ref a1)] [])) t
      refine XS.aloadN X3.here hx rfl (hb hby d7_25) rfl rfl ?_
      exact kt
    obtain ⟨T4, X4, e4, st4⟩ := getF X3 hx hZ hown (host := "") (Or.inl (own_wd hw 26 rfl)) Via.refl e3 F_coder_a0 (g := (mkF m 26 #[.val (.ref a0), .val (.ref a1), .val (.ref a1)] [(.ref a0)])) rfl rfl (hb hby d7_26)
    refine OGo.step st4 ?_
    show OGo _ _ _ _ _ _ _ (T4.setTop (mkF m 29 #[.val (.ref a0), .val (.ref a1), .val (.ref a1)] [(.int (0 : Int32))]))
    refine OGo.step (F' := T4.setTop (mkF m 30 #[.val (.ref a0), .val (.ref a1), .val (.ref a1)] [(.ref a1), (.int (0 : Int32))])) (fun t kt => ?_) ?_
    · show Steps p.tables e below (T4.setTop (mkF m 29 #[.val (.ref a0), .val (.ref a1), .val (.ref a1)] [(.int (0 : Int32))])) t
      refine XS.aloadN X4.here hx rfl (hb hby d7_29) rfl rfl ?_
      exact kt
    obtain ⟨T5, X5, e5, st5⟩ := getF X4 hx hZ hown (host := "") (Or.inl (own_wd hw 26 rfl)) Via.refl e4 F_coder_a1 (g := (mkF m 30 #[.val (.ref a0), .val (.ref a1), .val (.ref a1)] [(.ref a1), (.int (0 : Int32))])) rfl rfl (hb hby d7_30)
    refine OGo.step st5 ?_
    show OGo _ _ _ _ _ _ _ (T5.setTop (mkF m 33 #[.val (.ref a0), .val (.ref a1), .val (.ref a1)] [(.int (0 : Int32)), (.int (0 : Int32))]))
    refine OGo.step (F' := T5.setTop (mkF m 37 #[.val (.ref a0), .val (.ref a1), .val (.ref a1)] [(.ref a0)])) (fun t kt => ?_) ?_
    · show Steps p.tables e below (T5.setTop (mkF m 33 #[.val (.ref a0), .val (.ref a1), .val (.ref a1)] [(.int (0 : Int32)), (.int (0 : Int32))])) t
      refine XS.icmpNo X5.here hx rfl (hb hby d7_33) rfl (teq (by decide : (0 : Int32) = (0 : Int32))).2 ?_
      show Steps p.tables e below (T5.setTop (mkF m 36 #[.val (.ref a0), .val (.ref a1), .val (.ref a1)] [])) t
      refine XS.aloadN X5.here hx rfl (hb hby d7_36) rfl rfl ?_
      exact kt
    obtain ⟨T6, X6, e6, st6⟩ := getF X5 hx hZ hown (host := "") (Or.inl (own_wd hw 24 rfl)) Via.refl e5 F_value_a0 (g := (mkF m 37 #[.val (.ref a0), .val (.ref a1), .val (.ref a1)] [(.ref a0)])) rfl rfl (hb hby d7_37)
    refine OGo.step st6 ?_
    show OGo _ _ _ _ _ _ _ (T6.setTop (mkF m 40 #[.val (.ref a0), .val (.ref a1), .val (.ref a1)] [(.ref t0)]))
    refine OGo.step (F' := T6.setTop (mkF m 41 #[.val (.ref a0), .val (.ref a1), .val (.ref a1)] [(.ref a1), (.ref t0)])) (fun t kt => ?_) ?_
    · show Steps p.tables e below (T6.setTop (mkF m 40 #[.val (.ref a0), .val (.ref a1), .val (.ref a1)] [(.ref t0)])) t
      refine XS.aloadN X6.here hx rfl (hb hby d7_40) rfl rfl ?_
      exact kt
    obtain ⟨T7, X7, e7, st7⟩ := getF X6 hx hZ hown (host := "") (Or.inl (own_wd hw 24 rfl)) Via.refl e6 F_value_a1 (g := (mkF m 41 #[.val (.ref a0), .val (.ref a1), .val (.ref a1)] [(.ref a1), (.ref t0)])) rfl rfl (hb hby d7_41)
    refine OGo.step st7 ?_
    show OGo _ _ _ _ _ _ _ (T7.setTop (mkF m 44 #[.val (.ref a0), .val (.ref a1), .val (.ref a1)] [(.ref t1), (.ref t0)]))
    refine OGo.callS X7 hx hZ (y := (⟨"java/lang/StringLatin1", "equals", "([B[B)Z"⟩ : MethodName)) hown (own_wd hw 37 rfl) (own_wd hw 38 rfl) (own_wd hw 9 rfl) (own_wd hw 39 rfl) (by decide) (rm8 l Z az hw [] t0 t1 b0 b1 h0 n0 Z0 O_t0 O_t1) (W := 0) (by decide) (by decide) (g := (mkF m 44 #[.val (.ref a0), .val (.ref a1), .val (.ref a1)] [(.ref t1), (.ref t0)])) rfl (by rw [hml]; rfl) (argsL := [(.ref t0), (.ref t1)]) (rest := []) (lenOf pd_7_0 rfl) rfl (by show 2 * 0 + _ ≤ _; exact Nat.le_of_eq rfl) (hb hby d7_44) rfl e7 (by decide) (by decide) ?_
    rintro _ T8 L8 X8 ⟨rfl, Nq8, e8⟩
    have N8 := Fr.app N0 Nq8
    show OGo _ _ _ _ _ _ _ (T8.setTop (mkF m 47 #[.val (.ref a0), .val (.ref a1), .val (.ref a1)] [(.int (f8 b0 b1))]))
    by_cases hc47 : (f8 b0 b1) = (0 : Int32)
    · refine OGo.step (F' := T8.setTop (mkF m 54 #[.val (.ref a0), .val (.ref a1), .val (.ref a1)] [])) (fun t kt => ?_) ?_
      · show Steps p.tables e below (T8.setTop (mkF m 47 #[.val (.ref a0), .val (.ref a1), .val (.ref a1)] [(.int (f8 b0 b1))])) t
        refine XS.ifYes X8.here hx rfl (pc0 := 47) (pc' := 54) rfl (hb hby d7_47) rfl ((if0 _ _).trans (teq hc47).1) (by decide) (by decide) ?_
        exact kt
      refine OGo.step (F' := T8.setTop (mkF m 55 #[.val (.ref a0), .val (.ref a1), .val (.ref a1)] [(.int (0 : Int32))])) (fun t kt => ?_) ?_
      · show Steps p.tables e below (T8.setTop (mkF m 54 #[.val (.ref a0), .val (.ref a1), .val (.ref a1)] [])) t
        refine XS.iconst X8.here hx rfl (hb hby d7_54) ?_
        exact kt
      refine OGo.retZ X8 hx hlk (t := .boolean) (z' := (0 : Int32)) hret (by simp) (hb hby d7_55) rfl ?_ (by decide) (by decide)
      exact ⟨(by rw [f7, if_neg hc2, if_pos hc47]), N8, e8⟩
    · refine OGo.step (F' := T8.setTop (mkF m 50 #[.val (.ref a0), .val (.ref a1), .val (.ref a1)] [])) (fun t kt => ?_) ?_
      · show Steps p.tables e below (T8.setTop (mkF m 47 #[.val (.ref a0), .val (.ref a1), .val (.ref a1)] [(.int (f8 b0 b1))])) t
        refine XS.ifNo X8.here hx rfl (hb hby d7_47) rfl ((if0 _ _).trans (feq hc47).1) ?_
        exact kt
      refine OGo.step (F' := T8.setTop (mkF m 55 #[.val (.ref a0), .val (.ref a1), .val (.ref a1)] [(.int (1 : Int32))])) (fun t kt => ?_) ?_
      · show Steps p.tables e below (T8.setTop (mkF m 50 #[.val (.ref a0), .val (.ref a1), .val (.ref a1)] [])) t
        refine XS.iconst X8.here hx rfl (hb hby d7_50) ?_
        show Steps p.tables e below (T8.setTop (mkF m 51 #[.val (.ref a0), .val (.ref a1), .val (.ref a1)] [(.int (1 : Int32))])) t
        refine XS.goto X8.here hx rfl (pc0 := 51) (pc' := 55) rfl (hb hby d7_51) (by decide) (by decide) ?_
        exact kt
      refine OGo.retZ X8 hx hlk (t := .boolean) (z' := (1 : Int32)) hret (by simp) (hb hby d7_55) rfl ?_ (by decide) (by decide)
      exact ⟨(by rw [f7, if_neg hc2, if_neg hc47]), N8, e8⟩
/-! body 7: java/lang/String.equals:(Ljava/lang/Object;)Z -/
theorem ef_7z (m : MethodId) (x0 : Addr) : entryFrame m #[(.ref x0), .null] 3 = mkF m 0 #[.val (.ref x0), .val .null, .unset] [] := by first | (simp [entryFrame, mkF, argsToLocals, Value.category]; done) | rfl
def f7z  : Int32 :=
  (0 : Int32)
theorem fb7z  : nar .boolean f7z = f7z := by
  unfold f7z
  repeat' split
  all_goals first | rfl | decide
set_option maxRecDepth 65536 in
set_option maxHeartbeats 40000000 in
theorem rm7z (l : Launch) (Z : State) (az : Array Value) (hw : ∀ d ∈ tables_1, d.before az Z = true) (ws : List Jvm.Cond) (a0 : Addr) (h0 : Heap) (n0 : Nat) (Z0 : n0 ≤ h0.size) :
    OCtr l Z (⟨"java/lang/String", "equals", "(Ljava/lang/Object;)Z"⟩ : MethodName) jdk_42_method_66_code 3 (some .boolean) ws ({ frames := 0, cells := 0, slots := 0, locals := 0 } : Room) #[(.ref a0), .null] h0 (OPure (some (.int f7z)) h0 n0) := by
  refine OCtr.of (plainFor_of_name pn_7) ?_
  intro p e s m below meth c s₁ X0 hx hlk hZ hown0 hnm hby hml0 hret e0
  have hown : s.vm.findClass "java/lang/String" = some m.cls := hown0
  have hml : c.maxLocals = 3 := hml0
  have N0 := Fr.nil n0
  refine OGo.step (fun t k => castTop (ef_7z m a0) k) ?_
  refine OGo.step (F' := s₁.setTop (mkF m 8 #[.val (.ref a0), .val .null, .unset] [.null])) (fun t kt => ?_) ?_
  · show Steps p.tables e below (s₁.setTop (mkF m 0 #[.val (.ref a0), .val .null, .unset] [])) t
    refine XS.aloadN X0.here hx rfl (hb hby d7_0) rfl rfl ?_
    show Steps p.tables e below (s₁.setTop (mkF m 1 #[.val (.ref a0), .val .null, .unset] [(.ref a0)])) t
    refine XS.aloadN X0.here hx rfl (hb hby d7_1) rfl rfl ?_
    show Steps p.tables e below (s₁.setTop (mkF m 2 #[.val (.ref a0), .val .null, .unset] [.null, (.ref a0)])) t
    refine Jvm.RoadKit.acmp (g := (mkF m 2 #[.val (.ref a0), .val .null, .unset] [.null, (.ref a0)])) X0 hx rfl rfl rfl (pc0 := 2) (pc' := 7) (same := false) rfl (hb hby d7_2) rfl (decide_eq_false nofun) (by decide) (by decide) ?_
    show Steps p.tables e below (s₁.setTop (mkF m 7 #[.val (.ref a0), .val .null, .unset] [])) t
    refine XS.aloadN X0.here hx rfl (hb hby d7_7) rfl rfl ?_
    exact kt
  refine OGo.step (F' := s₁.setTop (mkF m 11 #[.val (.ref a0), .val .null, .unset] [(.int (0 : Int32))])) (fun t kt => ?_) ?_
  · show Steps p.tables e below (s₁.setTop (mkF m 8 #[.val (.ref a0), .val .null, .unset] [.null])) t
    refine X0.instanceofNull hx (g := (mkF m 8 #[.val (.ref a0), .val .null, .unset] [.null])) rfl rfl (hb hby d7_8) _ ?_
    exact kt
  refine OGo.step (F' := s₁.setTop (mkF m 55 #[.val (.ref a0), .val .null, .unset] [(.int (0 : Int32))])) (fun t kt => ?_) ?_
  · show Steps p.tables e below (s₁.setTop (mkF m 11 #[.val (.ref a0), .val .null, .unset] [(.int (0 : Int32))])) t
    refine XS.ifYes X0.here hx rfl (pc0 := 11) (pc' := 54) rfl (hb hby d7_11) rfl ((if0 _ _).trans (teq (by decide : (0 : Int32) = (0 : Int32))).1) (by decide) (by decide) ?_
    show Steps p.tables e below (s₁.setTop (mkF m 54 #[.val (.ref a0), .val .null, .unset] [])) t
    refine XS.iconst X0.here hx rfl (hb hby d7_54) ?_
    exact kt
  refine OGo.retZ X0 hx hlk (t := .boolean) (z' := (0 : Int32)) hret (by simp) (hb hby d7_55) rfl ?_ (by decide) (by decide)
  exact ⟨(by rw [f7z]), N0, e0⟩
theorem own_nosub (az : Array Value) (Z : State) (hw : ∀ d ∈ tables_1, d.before az Z = true) : ∃ c t, Z.vm.findClass "java/lang/Integer" = some c ∧ Z.vm.findClass "java/lang/String" = some t ∧ Z.vm.assignable c t = false := by
  obtain ⟨t, k', g0, g2, g5, g7, -⟩ := Cond.instantiable_spec (own_wd hw 12 rfl)
  have gi : k'.isInterface = false := by revert g7; cases k'.isInterface <;> simp
  obtain ⟨co, ko, o1, o2, o3, -, -⟩ := Cond.noSuperclass_spec (own_wd hw 61 rfl)
  have neo := ids_ne o1 g0 (by decide)
  have so : ∀ fuel, Z.vm.isSubclassAux fuel co t = false := fun fuel => by
    cases fuel with
    | zero => rfl
    | succ f => simp [Vm.isSubclassAux, neo, o2, o3]
  obtain ⟨cn, n0⟩ := found_sup (C := "java/lang/Number") (S := "java/lang/Object") (own_wd hw 60 rfl)
  obtain ⟨pn, kn, kp, n1, n2, n3, n4, -⟩ := Cond.superclass_spec n0 ((own_wd hw 60 rfl) : (Jvm.Cond.superclass "java/lang/Number" "java/lang/Object").before az Z = true)
  cases o1.symm.trans n1
  have nen := ids_ne n0 g0 (by decide)
  have sn : ∀ fuel, Z.vm.isSubclassAux fuel cn t = false := fun fuel => by
    cases fuel with
    | zero => rfl
    | succ f => simp [Vm.isSubclassAux, nen, n2, n4, so]
  obtain ⟨ci, i0⟩ := found_sup (C := "java/lang/Integer") (S := "java/lang/Number") (own_wd hw 59 rfl)
  obtain ⟨pi, ki, kq, i1, i2, i3, i4, i5, -⟩ := Cond.superclass_spec i0 ((own_wd hw 59 rfl) : (Jvm.Cond.superclass "java/lang/Integer" "java/lang/Number").before az Z = true)
  cases n0.symm.trans i1
  have nei := ids_ne i0 g0 (by decide)
  have si : ∀ fuel, Z.vm.isSubclassAux fuel ci t = false := fun fuel => by
    cases fuel with
    | zero => rfl
    | succ f => simp [Vm.isSubclassAux, nei, i2, i4, sn]
  refine ⟨ci, t, i0, g0, ?_⟩
  show Z.vm.assignableAux (255 + 1) ci t = false
  simp [Vm.assignableAux, nei, i2, g2, i5, g5, gi, Vm.isSubclass, si]
/-! body 7: java/lang/String.equals:(Ljava/lang/Object;)Z -/
theorem ef_7n (m : MethodId) (x0 : Addr) (x1 : Addr) : entryFrame m #[(.ref x0), (.ref x1)] 3 = mkF m 0 #[.val (.ref x0), .val (.ref x1), .unset] [] := by first | (simp [entryFrame, mkF, argsToLocals, Value.category]; done) | rfl
def f7n  : Int32 :=
  (0 : Int32)
theorem fb7n  : nar .boolean f7n = f7n := by
  unfold f7n
  repeat' split
  all_goals first | rfl | decide
set_option maxRecDepth 65536 in
set_option maxHeartbeats 40000000 in
theorem rm7n (l : Launch) (Z : State) (az : Array Value) (hw : ∀ d ∈ tables_1, d.before az Z = true) (ws : List Jvm.Cond) (a0 : Addr) (a1 : Addr) (h0 : Heap) (n0 : Nat) (Z0 : n0 ≤ h0.size) (E_a1 : Exa Z h0 a1 "java/lang/Integer") (hne : a0 ≠ a1) :
    OCtr l Z (⟨"java/lang/String", "equals", "(Ljava/lang/Object;)Z"⟩ : MethodName) jdk_42_method_66_code 3 (some .boolean) ws ({ frames := 0, cells := 0, slots := 0, locals := 0 } : Room) #[(.ref a0), (.ref a1)] h0 (OPure (some (.int f7n)) h0 n0) := by
  refine OCtr.of (plainFor_of_name pn_7) ?_
  intro p e s m below meth c s₁ X0 hx hlk hZ hown0 hnm hby hml0 hret e0
  have hown : s.vm.findClass "java/lang/String" = some m.cls := hown0
  have hml : c.maxLocals = 3 := hml0
  have N0 := Fr.nil n0
  refine OGo.step (fun t k => castTop (ef_7n m a0 a1) k) ?_
  refine OGo.step (F' := s₁.setTop (mkF m 8 #[.val (.ref a0), .val (.ref a1), .unset] [(.ref a1)])) (fun t kt => ?_) ?_
  · show Steps p.tables e below (s₁.setTop (mkF m 0 #[.val (.ref a0), .val (.ref a1), .unset] [])) t
    refine XS.aloadN X0.here hx rfl (hb hby d7_0) rfl rfl ?_
    show Steps p.tables e below (s₁.setTop (mkF m 1 #[.val (.ref a0), .val (.ref a1), .unset] [(.ref a0)])) t
    refine XS.aloadN X0.here hx rfl (hb hby d7_1) rfl rfl ?_
    show Steps p.tables e below (s₁.setTop (mkF m 2 #[.val (.ref a0), .val (.ref a1), .unset] [(.ref a1), (.ref a0)])) t
    refine Jvm.RoadKit.acmp (g := (mkF m 2 #[.val (.ref a0), .val (.ref a1), .unset] [(.ref a1), (.ref a0)])) X0 hx rfl rfl rfl (pc0 := 2) (pc' := 7) (same := false) rfl (hb hby d7_2) rfl (decide_eq_false fun q => hne (Value.ref.inj q)) (by decide) (by decide) ?_
    show Steps p.tables e below (s₁.setTop (mkF m 7 #[.val (.ref a0), .val (.ref a1), .unset] [])) t
    refine XS.aloadN X0.here hx rfl (hb hby d7_7) rfl rfl ?_
    exact kt
  obtain ⟨T1, X1, e1, st1⟩ := instNo X0 hx hZ hown (own_wd hw 11 rfl) e0 E_a1 (own_nosub az Z hw) (g := (mkF m 8 #[.val (.ref a0), .val (.ref a1), .unset] [(.ref a1)])) rfl rfl (hb hby d7_8)
  refine OGo.step st1 ?_
  show OGo _ _ _ _ _ _ _ (T1.setTop (mkF m 11 #[.val (.ref a0), .val (.ref a1), .unset] [(.int (0 : Int32))]))
  refine OGo.step (F' := T1.setTop (mkF m 55 #[.val (.ref a0), .val (.ref a1), .unset] [(.int (0 : Int32))])) (fun t kt => ?_) ?_
  · show Steps p.tables e below (T1.setTop (mkF m 11 #[.val (.ref a0), .val (.ref a1), .unset] [(.int (0 : Int32))])) t
    refine XS.ifYes X1.here hx rfl (pc0 := 11) (pc' := 54) rfl (hb hby d7_11) rfl ((if0 _ _).trans (teq (by decide : (0 : Int32) = (0 : Int32))).1) (by decide) (by decide) ?_
    show Steps p.tables e below (T1.setTop (mkF m 54 #[.val (.ref a0), .val (.ref a1), .unset] [])) t
    refine XS.iconst X1.here hx rfl (hb hby d7_54) ?_
    exact kt
  refine OGo.retZ X1 hx hlk (t := .boolean) (z' := (0 : Int32)) hret (by simp) (hb hby d7_55) rfl ?_ (by decide) (by decide)
  exact ⟨(by rw [f7n]), N0, e1⟩
/-! body 6: com/example/kette/kette/JsonObject.walk:([Ljava/lang/String;ILjava/lang/Object;)I -/
theorem d6_0 : decode prog_30_method_4_code 0 = .ok (.iconst (-1), 1) := by decide +kernel
theorem d6_1 : decode prog_30_method_4_code 1 = .ok (.istore_n 3, 1) := by decide +kernel
theorem d6_2 : decode prog_30_method_4_code 2 = .ok (.iconst 0, 1) := by decide +kernel
theorem d6_3 : decode prog_30_method_4_code 3 = .ok (.istore 4, 2) := by decide +kernel
theorem d6_5 : decode prog_30_method_4_code 5 = .ok (.iload 4, 2) := by decide +kernel
theorem d6_7 : decode prog_30_method_4_code 7 = .ok (.iload_n 1, 1) := by decide +kernel
theorem d6_8 : decode prog_30_method_4_code 8 = .ok (.if_icmp .ge 27, 3) := by decide +kernel
theorem d6_11 : decode prog_30_method_4_code 11 = .ok (.iload_n 3, 1) := by decide +kernel
theorem d6_12 : decode prog_30_method_4_code 12 = .ok (.ifCond .ge 23, 3) := by decide +kernel
theorem d6_15 : decode prog_30_method_4_code 15 = .ok (.aload_n 0, 1) := by decide +kernel
theorem d6_16 : decode prog_30_method_4_code 16 = .ok (.iload 4, 2) := by decide +kernel
theorem d6_18 : decode prog_30_method_4_code 18 = .ok (.aaload, 1) := by decide +kernel
theorem d6_19 : decode prog_30_method_4_code 19 = .ok (.aload_n 2, 1) := by decide +kernel
theorem d6_20 : decode prog_30_method_4_code 20 = .ok (.invokevirtual 24, 3) := by decide +kernel
theorem d6_23 : decode prog_30_method_4_code 23 = .ok (.ifCond .eq 6, 3) := by decide +kernel
theorem d6_26 : decode prog_30_method_4_code 26 = .ok (.iload 4, 2) := by decide +kernel
theorem d6_28 : decode prog_30_method_4_code 28 = .ok (.istore_n 3, 1) := by decide +kernel
theorem d6_29 : decode prog_30_method_4_code 29 = .ok (.iinc 4 1, 3) := by decide +kernel
theorem d6_32 : decode prog_30_method_4_code 32 = .ok (.goto (-27), 3) := by decide +kernel
theorem d6_35 : decode prog_30_method_4_code 35 = .ok (.iload_n 3, 1) := by decide +kernel
theorem d6_36 : decode prog_30_method_4_code 36 = .ok (.ireturn, 1) := by decide +kernel
theorem pn_6 : plainName "com/example/kette/kette/JsonObject" = true := by first | (simp [plainName, overriddenIn]; done) | decide +kernel
theorem pd_6_0 : parseMethodDescriptor "(Ljava/lang/Object;)Z" = some ⟨[(.object "java/lang/Object")], some .boolean⟩ := by decide +kernel
theorem ef_6 (m : MethodId) (x0 : Addr) (x1 : Int32) (x2 : Addr) : entryFrame m #[(.ref x0), (.int x1), (.ref x2)] 5 = mkF m 0 #[.val (.ref x0), .val (.int x1), .val (.ref x2), .unset, .unset] [] := by first | (simp [entryFrame, mkF, argsToLocals, Value.category]; done) | rfl
def f6 (p1 : Int32) (a2 : Addr) (r0 : Addr) (r1 : Addr) (r2 : Addr) (r3 : Addr) (b0 : Int32) (b1 : Int32) (b2 : Int32) (b3 : Int32) (bn : Int32) : Int32 :=
  if (0 : Int32) < p1 then (if (f7 r0 a2 b0 bn) = (0 : Int32) then (if (1 : Int32) < p1 then (if (f7 r1 a2 b1 bn) = (0 : Int32) then (if (2 : Int32) < p1 then (if (f7 r2 a2 b2 bn) = (0 : Int32) then (if (3 : Int32) < p1 then (if (f7 r3 a2 b3 bn) = (0 : Int32) then (-1 : Int32)
                else (3 : Int32))
              else (-1 : Int32))
            else if (3 : Int32) < p1 then (2 : Int32)
              else (2 : Int32))
          else (-1 : Int32))
        else if (2 : Int32) < p1 then (1 : Int32)
          else (1 : Int32))
      else (-1 : Int32))
    else if (1 : Int32) < p1 then (0 : Int32)
      else (0 : Int32))
  else (-1 : Int32)
set_option maxRecDepth 65536 in
set_option maxHeartbeats 40000000 in
theorem rm6 (l : Launch) (Z : State) (az : Array Value) (hw : ∀ d ∈ tables_1, d.before az Z = true) (ws : List Jvm.Cond) (a0 : Addr) (p1 : Int32) (a2 : Addr) (kk : ClassId) (r0 : Addr) (r1 : Addr) (r2 : Addr) (r3 : Addr) (t0 : Addr) (t1 : Addr) (t2 : Addr) (t3 : Addr) (b0 : Int32) (b1 : Int32) (b2 : Int32) (b3 : Int32) (tn : Addr) (bn : Int32) (w_COMPACT_STRINGS : Int32) (h0 : Heap) (n0 : Nat) (Z0 : n0 ≤ h0.size) (V_a0 : Arv Z h0 a0 kk (.object "java/lang/String") (4 : Int32) [(.ref r0), (.ref r1), (.ref r2), (.ref r3)] .null) (E_r0 : Exa Z h0 r0 "java/lang/String") (Fv_r0 : Fld Z h0 r0 "java/lang/String" "value" "[B" (.ref t0)) (Fc_r0 : Fld Z h0 r0 "java/lang/String" "coder" "B" (.int (0 : Int32))) (O_t0 : OBy Z h0 t0 b0) (E_r1 : Exa Z h0 r1 "java/lang/String") (Fv_r1 : Fld Z h0 r1 "java/lang/String" "value" "[B" (.ref t1)) (Fc_r1 : Fld Z h0 r1 "java/lang/String" "coder" "B" (.int (0 : Int32))) (O_t1 : OBy Z h0 t1 b1) (E_r2 : Exa Z h0 r2 "java/lang/String") (Fv_r2 : Fld Z h0 r2 "java/lang/String" "value" "[B" (.ref t2)) (Fc_r2 : Fld Z h0 r2 "java/lang/String" "coder" "B" (.int (0 : Int32))) (O_t2 : OBy Z h0 t2 b2) (E_r3 : Exa Z h0 r3 "java/lang/String") (Fv_r3 : Fld Z h0 r3 "java/lang/String" "value" "[B" (.ref t3)) (Fc_r3 : Fld Z h0 r3 "java/lang/String" "coder" "B" (.int (0 : Int32))) (O_t3 : OBy Z h0 t3 b3) (E_a2 : Exa Z h0 a2 "java/lang/String") (Fv_a2 : Fld Z h0 a2 "java/lang/String" "value" "[B" (.ref tn)) (Fc_a2 : Fld Z h0 a2 "java/lang/String" "coder" "B" (.int (0 : Int32))) (O_tn : OBy Z h0 tn bn) (hC : ¬ (w_COMPACT_STRINGS = (0 : Int32))) (hp : p1 < (5 : Int32)) (S_String_COMPACT_STRINGS : Sta Z h0 "java/lang/String" "COMPACT_STRINGS" "Z" (.int w_COMPACT_STRINGS)) :
    OCtr l Z (⟨"com/example/kette/kette/JsonObject", "walk", "([Ljava/lang/String;ILjava/lang/Object;)I"⟩ : MethodName) prog_30_method_4_code 5 (some .int) ws ({ frames := 2, cells := 0, slots := 0, locals := 28 } : Room) #[(.ref a0), (.int p1), (.ref a2)] h0 (OPure (some (.int (f6 p1 a2 r0 r1 r2 r3 b0 b1 b2 b3 bn))) h0 n0) := by
  refine OCtr.of (plainFor_of_name pn_6) ?_
  intro p e s m below meth c s₁ X0 hx hlk hZ hown0 hnm hby hml0 hret e0
  have hown : s.vm.findClass "com/example/kette/kette/JsonObject" = some m.cls := hown0
  have hml : c.maxLocals = 5 := hml0
  have N0 := Fr.nil n0
  refine OGo.step (fun t k => castTop (ef_6 m a0 p1 a2) k) ?_
  refine OGo.step (F' := s₁.setTop (mkF m 8 #[.val (.ref a0), .val (.int p1), .val (.ref a2), .val (.int (-1 : Int32)), .val (.int (0 : Int32))] [(.int p1), (.int (0 : Int32))])) (fun t kt => ?_) ?_
  · show Steps p.tables e below (s₁.setTop (mkF m 0 #[.val (.ref a0), .val (.int p1), .val (.ref a2), .unset, .unset] [])) t
    refine XS.iconst X0.here hx rfl (hb hby d6_0) ?_
    show Steps p.tables e below (s₁.setTop (mkF m 1 #[.val (.ref a0), .val (.int p1), .val (.ref a2), .unset, .unset] [(.int (-1 : Int32))])) t
    refine XS.istoreN X0.here hx rfl (hb hby d6_1) rfl (l' := #[.val (.ref a0), .val (.int p1), .val (.ref a2), .val (.int (-1 : Int32)), .unset]) rfl ?_
    show Steps p.tables e below (s₁.setTop (mkF m 2 #[.val (.ref a0), .val (.int p1), .val (.ref a2), .val (.int (-1 : Int32)), .unset] [])) t
    refine XS.iconst X0.here hx rfl (hb hby d6_2) ?_
    show Steps p.tables e below (s₁.setTop (mkF m 3 #[.val (.ref a0), .val (.int p1), .val (.ref a2), .val (.int (-1 : Int32)), .unset] [(.int (0 : Int32))])) t
    refine XS.istore X0.here hx rfl (hb hby d6_3) rfl (l' := #[.val (.ref a0), .val (.int p1), .val (.ref a2), .val (.int (-1 : Int32)), .val (.int (0 : Int32))]) rfl ?_
    show Steps p.tables e below (s₁.setTop (mkF m 5 #[.val (.ref a0), .val (.int p1), .val (.ref a2), .val (.int (-1 : Int32)), .val (.int (0 : Int32))] [])) t
    refine XS.iload X0.here hx rfl (hb hby d6_5) rfl ?_
    show Steps p.tables e below (s₁.setTop (mkF m 7 #[.val (.ref a0), .val (.int p1), .val (.ref a2), .val (.int (-1 : Int32)), .val (.int (0 : Int32))] [(.int (0 : Int32))])) t
    refine XS.iloadN X0.here hx rfl (hb hby d6_7) rfl ?_
    exact kt
  by_cases hc8 : (0 : Int32) < p1
  · refine OGo.step (F' := s₁.setTop (mkF m 11 #[.val (.ref a0), .val (.int p1), .val (.ref a2), .val (.int (-1 : Int32)), .val (.int (0 : Int32))] [])) (fun t kt => ?_) ?_
    · show Steps p.tables e below (s₁.setTop (mkF m 8 #[.val (.ref a0), .val (.int p1), .val (.ref a2), .val (.int (-1 : Int32)), .val (.int (0 : Int32))] [(.int p1), (.int (0 : Int32))])) t
      refine XS.icmpNo X0.here hx rfl (hb hby d6_8) rfl (tlt hc8).2.1 ?_
      exact kt
    refine OGo.step (F' := s₁.setTop (mkF m 18 #[.val (.ref a0), .val (.int p1), .val (.ref a2), .val (.int (-1 : Int32)), .val (.int (0 : Int32))] [(.int (0 : Int32)), (.ref a0)])) (fun t kt => ?_) ?_
    · show Steps p.tables e below (s₁.setTop (mkF m 11 #[.val (.ref a0), .val (.int p1), .val (.ref a2), .val (.int (-1 : Int32)), .val (.int (0 : Int32))] [])) t
      refine XS.iloadN X0.here hx rfl (hb hby d6_11) rfl ?_
      show Steps p.tables e below (s₁.setTop (mkF m 12 #[.val (.ref a0), .val (.int p1), .val (.ref a2), .val (.int (-1 : Int32)), .val (.int (0 : Int32))] [(.int (-1 : Int32))])) t
      refine XS.ifNo X0.here hx rfl (hb hby d6_12) rfl ((if0 _ _).trans (tlt (by decide : (-1 : Int32) < (0 : Int32))).2.1) ?_
      show Steps p.tables e below (s₁.setTop (mkF m 15 #[.val (.ref a0), .val (.int p1), .val (.ref a2), .val (.int (-1 : Int32)), .val (.int (0 : Int32))] [])) t
      refine XS.aloadN X0.here hx rfl (hb hby d6_15) rfl rfl ?_
      show Steps p.tables e below (s₁.setTop (mkF m 16 #[.val (.ref a0), .val (.int p1), .val (.ref a2), .val (.int (-1 : Int32)), .val (.int (0 : Int32))] [(.ref a0)])) t
      refine XS.iload X0.here hx rfl (hb hby d6_16) rfl ?_
      exact kt
    obtain ⟨cl1, Ar1, q1, S1, N1a, H1, G1⟩ := id (V_a0)
    have hin1 : ¬ ((0 : Int32) < 0 ∨ cl1.slots.size ≤ ((0 : Int32)).toNatClampNeg) := inb_of S1 ⟨by decide, by decide⟩
    have hat1 : cl1.slots[((0 : Int32)).toNatClampNeg]? = some (.ref r0) := H1.at hin1 rfl
    refine OGo.step (F' := s₁.setTop (mkF m 19 #[.val (.ref a0), .val (.int p1), .val (.ref a2), .val (.int (-1 : Int32)), .val (.int (0 : Int32))] [(.ref r0)])) (fun t kt => ?_) ?_
    · show Steps p.tables e below (s₁.setTop (mkF m 18 #[.val (.ref a0), .val (.int p1), .val (.ref a2), .val (.int (-1 : Int32)), .val (.int (0 : Int32))] [(.int (0 : Int32)), (.ref a0)])) t
      refine X0.aaload hx (j := (0 : Int32)) (v := (.ref r0)) (by rw [e0]; exact Ar1.1) (State.isArrayOf_alike hZ.alike Ar1.2.1) rfl Ar1.2.2 hin1 hat1 (g := (mkF m 18 #[.val (.ref a0), .val (.int p1), .val (.ref a2), .val (.int (-1 : Int32)), .val (.int (0 : Int32))] [(.int (0 : Int32)), (.ref a0)])) rfl rfl (hb hby d6_18) _ ?_
      exact kt
    refine OGo.step (F' := s₁.setTop (mkF m 20 #[.val (.ref a0), .val (.int p1), .val (.ref a2), .val (.int (-1 : Int32)), .val (.int (0 : Int32))] [(.ref a2), (.ref r0)])) (fun t kt => ?_) ?_
    · show Steps p.tables e below (s₁.setTop (mkF m 19 #[.val (.ref a0), .val (.int p1), .val (.ref a2), .val (.int (-1 : Int32)), .val (.int (0 : Int32))] [(.ref r0)])) t
      refine XS.aloadN X0.here hx rfl (hb hby d6_19) rfl rfl ?_
      exact kt
    refine OGo.callV X0 hx hZ (y := (⟨"java/lang/String", "equals", "(Ljava/lang/Object;)Z"⟩ : MethodName)) (z := (⟨"java/lang/String", "equals", "(Ljava/lang/Object;)Z"⟩ : MethodName)) hown (own_wd hw 32 rfl) (own_wd hw 33 rfl) (notFace_of_selects (args := #[]) (mvT hZ (own_wd hw 35 rfl))) (own_wd hw 35 rfl) (own_wd hw 34 rfl) (own_wd hw 4 rfl) (own_wd hw 36 rfl) (by decide) (rm7 l Z az hw [] r0 a2 t0 tn b0 bn w_COMPACT_STRINGS h0 n0 Z0 E_a2 Fv_r0 Fv_a2 Fc_r0 Fc_a2 O_t0 O_tn hC S_String_COMPACT_STRINGS) (W := 0) (by decide) (by decide) E_r0 (g := (mkF m 20 #[.val (.ref a0), .val (.int p1), .val (.ref a2), .val (.int (-1 : Int32)), .val (.int (0 : Int32))] [(.ref a2), (.ref r0)])) rfl (by rw [hml]; rfl) (argsL := [(.ref a2)]) (rest := []) (lenOf pd_6_0 rfl) rfl (by show 2 * 0 + _ ≤ _; exact Nat.le_of_eq rfl) (hb hby d6_20) rfl e0 (by decide) (by decide) ?_
    rintro _ T2 L2 X2 ⟨rfl, Nq2, e2⟩
    have N2 := Fr.app N0 Nq2
    show OGo _ _ _ _ _ _ _ (T2.setTop (mkF m 23 #[.val (.ref a0), .val (.int p1), .val (.ref a2), .val (.int (-1 : Int32)), .val (.int (0 : Int32))] [(.int (f7 r0 a2 b0 bn))]))
    by_cases hc23 : (f7 r0 a2 b0 bn) = (0 : Int32)
    · refine OGo.step (F' := T2.setTop (mkF m 29 #[.val (.ref a0), .val (.int p1), .val (.ref a2), .val (.int (-1 : Int32)), .val (.int (0 : Int32))] [])) (fun t kt => ?_) ?_
      · show Steps p.tables e below (T2.setTop (mkF m 23 #[.val (.ref a0), .val (.int p1), .val (.ref a2), .val (.int (-1 : Int32)), .val (.int (0 : Int32))] [(.int (f7 r0 a2 b0 bn))])) t
        refine XS.ifYes X2.here hx rfl (pc0 := 23) (pc' := 29) rfl (hb hby d6_23) rfl ((if0 _ _).trans (teq hc23).1) (by decide) (by decide) ?_
        exact kt
      refine OGo.step (F' := T2.setTop (mkF m 8 #[.val (.ref a0), .val (.int p1), .val (.ref a2), .val (.int (-1 : Int32)), .val (.int (1 : Int32))] [(.int p1), (.int (1 : Int32))])) (fun t kt => ?_) ?_
      · show Steps p.tables e below (T2.setTop (mkF m 29 #[.val (.ref a0), .val (.int p1), .val (.ref a2), .val (.int (-1 : Int32)), .val (.int (0 : Int32))] [])) t
        refine XS.iinc X2.here hx rfl (hb hby d6_29) rfl (l' := #[.val (.ref a0), .val (.int p1), .val (.ref a2), .val (.int (-1 : Int32)), .val (.int (1 : Int32))]) rfl ?_
        show Steps p.tables e below (T2.setTop (mkF m 32 #[.val (.ref a0), .val (.int p1), .val (.ref a2), .val (.int (-1 : Int32)), .val (.int (1 : Int32))] [])) t
        refine XS.goto X2.here hx rfl (pc0 := 32) (pc' := 5) rfl (hb hby d6_32) (by decide) (by decide) ?_
        show Steps p.tables e below (T2.setTop (mkF m 5 #[.val (.ref a0), .val (.int p1), .val (.ref a2), .val (.int (-1 : Int32)), .val (.int (1 : Int32))] [])) t
        refine XS.iload X2.here hx rfl (hb hby d6_5) rfl ?_
        show Steps p.tables e below (T2.setTop (mkF m 7 #[.val (.ref a0), .val (.int p1), .val (.ref a2), .val (.int (-1 : Int32)), .val (.int (1 : Int32))] [(.int (1 : Int32))])) t
        refine XS.iloadN X2.here hx rfl (hb hby d6_7) rfl ?_
        exact kt
      by_cases hc8_3 : (1 : Int32) < p1
      · refine OGo.step (F' := T2.setTop (mkF m 11 #[.val (.ref a0), .val (.int p1), .val (.ref a2), .val (.int (-1 : Int32)), .val (.int (1 : Int32))] [])) (fun t kt => ?_) ?_
        · show Steps p.tables e below (T2.setTop (mkF m 8 #[.val (.ref a0), .val (.int p1), .val (.ref a2), .val (.int (-1 : Int32)), .val (.int (1 : Int32))] [(.int p1), (.int (1 : Int32))])) t
          refine XS.icmpNo X2.here hx rfl (hb hby d6_8) rfl (tlt hc8_3).2.1 ?_
          exact kt
        refine OGo.step (F' := T2.setTop (mkF m 18 #[.val (.ref a0), .val (.int p1), .val (.ref a2), .val (.int (-1 : Int32)), .val (.int (1 : Int32))] [(.int (1 : Int32)), (.ref a0)])) (fun t kt => ?_) ?_
        · show Steps p.tables e below (T2.setTop (mkF m 11 #[.val (.ref a0), .val (.int p1), .val (.ref a2), .val (.int (-1 : Int32)), .val (.int (1 : Int32))] [])) t
          refine XS.iloadN X2.here hx rfl (hb hby d6_11) rfl ?_
          show Steps p.tables e below (T2.setTop (mkF m 12 #[.val (.ref a0), .val (.int p1), .val (.ref a2), .val (.int (-1 : Int32)), .val (.int (1 : Int32))] [(.int (-1 : Int32))])) t
          refine XS.ifNo X2.here hx rfl (hb hby d6_12) rfl ((if0 _ _).trans (tlt (by decide : (-1 : Int32) < (0 : Int32))).2.1) ?_
          show Steps p.tables e below (T2.setTop (mkF m 15 #[.val (.ref a0), .val (.int p1), .val (.ref a2), .val (.int (-1 : Int32)), .val (.int (1 : Int32))] [])) t
          refine XS.aloadN X2.here hx rfl (hb hby d6_15) rfl rfl ?_
          show Steps p.tables e below (T2.setTop (mkF m 16 #[.val (.ref a0), .val (.int p1), .val (.ref a2), .val (.int (-1 : Int32)), .val (.int (1 : Int32))] [(.ref a0)])) t
          refine XS.iload X2.here hx rfl (hb hby d6_16) rfl ?_
          exact kt
        obtain ⟨cl4, Ar4, q4, S4, N4a, H4, G4⟩ := id (V_a0)
        have hin4 : ¬ ((1 : Int32) < 0 ∨ cl4.slots.size ≤ ((1 : Int32)).toNatClampNeg) := inb_of S4 ⟨by decide, by decide⟩
        have hat4 : cl4.slots[((1 : Int32)).toNatClampNeg]? = some (.ref r1) := H4.at hin4 rfl
        refine OGo.step (F' := T2.setTop (mkF m 19 #[.val (.ref a0), .val (.int p1), .val (.ref a2), .val (.int (-1 : Int32)), .val (.int (1 : Int32))] [(.ref r1)])) (fun t kt => ?_) ?_
        · show Steps p.tables e below (T2.setTop (mkF m 18 #[.val (.ref a0), .val (.int p1), .val (.ref a2), .val (.int (-1 : Int32)), .val (.int (1 : Int32))] [(.int (1 : Int32)), (.ref a0)])) t
          refine X2.aaload hx (j := (1 : Int32)) (v := (.ref r1)) (by rw [e2]; exact Ar4.1) (State.isArrayOf_alike hZ.alike Ar4.2.1) rfl Ar4.2.2 hin4 hat4 (g := (mkF m 18 #[.val (.ref a0), .val (.int p1), .val (.ref a2), .val (.int (-1 : Int32)), .val (.int (1 : Int32))] [(.int (1 : Int32)), (.ref a0)])) rfl rfl (hb hby d6_18) _ ?_
          exact kt
        refine OGo.step (F' := T2.setTop (mkF m 20 #[.val (.ref a0), .val (.int p1), .val (.ref a2), .val (.int (-1 : Int32)), .val (.int (1 : Int32))] [(.ref a2), (.ref r1)])) (fun t kt => ?_) ?_
        · show Steps p.tables e below (T2.setTop (mkF m 19 #[.val (.ref a0), .val (.int p1), .val (.ref a2), .val (.int (-1 : Int32)), .val (.int (1 : Int32))] [(.ref r1)])) t
          refine XS.aloadN X2.here hx rfl (hb hby d6_19) rfl rfl ?_
          exact kt
        refine OGo.callV X2 hx hZ (y := (⟨"java/lang/String", "equals", "(Ljava/lang/Object;)Z"⟩ : MethodName)) (z := (⟨"java/lang/String", "equals", "(Ljava/lang/Object;)Z"⟩ : MethodName)) hown (own_wd hw 32 rfl) (own_wd hw 33 rfl) (notFace_of_selects (args := #[]) (mvT hZ (own_wd hw 35 rfl))) (own_wd hw 35 rfl) (own_wd hw 34 rfl) (own_wd hw 4 rfl) (own_wd hw 36 rfl) (by decide) (rm7 l Z az hw [] r1 a2 t1 tn b1 bn w_COMPACT_STRINGS h0 n0 Z0 E_a2 Fv_r1 Fv_a2 Fc_r1 Fc_a2 O_t1 O_tn hC S_String_COMPACT_STRINGS) (W := 0) (by decide) (by decide) E_r1 (g := (mkF m 20 #[.val (.ref a0), .val (.int p1), .val (.ref a2), .val (.int (-1 : Int32)), .val (.int (1 : Int32))] [(.ref a2), (.ref r1)])) rfl (by rw [hml]; rfl) (argsL := [(.ref a2)]) (rest := []) (lenOf pd_6_0 rfl) rfl (by show 2 * 0 + _ ≤ _; exact Nat.le_of_eq rfl) (hb hby d6_20) rfl e2 (by decide) (by decide) ?_
        rintro _ T5 L5 X5 ⟨rfl, Nq5, e5⟩
        have N5 := Fr.app N2 Nq5
        show OGo _ _ _ _ _ _ _ (T5.setTop (mkF m 23 #[.val (.ref a0), .val (.int p1), .val (.ref a2), .val (.int (-1 : Int32)), .val (.int (1 : Int32))] [(.int (f7 r1 a2 b1 bn))]))
        by_cases hc23_6 : (f7 r1 a2 b1 bn) = (0 : Int32)
        · refine OGo.step (F' := T5.setTop (mkF m 29 #[.val (.ref a0), .val (.int p1), .val (.ref a2), .val (.int (-1 : Int32)), .val (.int (1 : Int32))] [])) (fun t kt => ?_) ?_
          · show Steps p.tables e below (T5.setTop (mkF m 23 #[.val (.ref a0), .val (.int p1), .val (.ref a2), .val (.int (-1 : Int32)), .val (.int (1 : Int32))] [(.int (f7 r1 a2 b1 bn))])) t
            refine XS.ifYes X5.here hx rfl (pc0 := 23) (pc' := 29) rfl (hb hby d6_23) rfl ((if0 _ _).trans (teq hc23_6).1) (by decide) (by decide) ?_
            exact kt
          refine OGo.step (F' := T5.setTop (mkF m 8 #[.val (.ref a0), .val (.int p1), .val (.ref a2), .val (.int (-1 : Int32)), .val (.int (2 : Int32))] [(.int p1), (.int (2 : Int32))])) (fun t kt => ?_) ?_
          · show Steps p.tables e below (T5.setTop (mkF m 29 #[.val (.ref a0), .val (.int p1), .val (.ref a2), .val (.int (-1 : Int32)), .val (.int (1 : Int32))] [])) t
            refine XS.iinc X5.here hx rfl (hb hby d6_29) rfl (l' := #[.val (.ref a0), .val (.int p1), .val (.ref a2), .val (.int (-1 : Int32)), .val (.int (2 : Int32))]) rfl ?_
            show Steps p.tables e below (T5.setTop (mkF m 32 #[.val (.ref a0), .val (.int p1), .val (.ref a2), .val (.int (-1 : Int32)), .val (.int (2 : Int32))] [])) t
            refine XS.goto X5.here hx rfl (pc0 := 32) (pc' := 5) rfl (hb hby d6_32) (by decide) (by decide) ?_
            show Steps p.tables e below (T5.setTop (mkF m 5 #[.val (.ref a0), .val (.int p1), .val (.ref a2), .val (.int (-1 : Int32)), .val (.int (2 : Int32))] [])) t
            refine XS.iload X5.here hx rfl (hb hby d6_5) rfl ?_
            show Steps p.tables e below (T5.setTop (mkF m 7 #[.val (.ref a0), .val (.int p1), .val (.ref a2), .val (.int (-1 : Int32)), .val (.int (2 : Int32))] [(.int (2 : Int32))])) t
            refine XS.iloadN X5.here hx rfl (hb hby d6_7) rfl ?_
            exact kt
          by_cases hc8_7 : (2 : Int32) < p1
          · refine OGo.step (F' := T5.setTop (mkF m 11 #[.val (.ref a0), .val (.int p1), .val (.ref a2), .val (.int (-1 : Int32)), .val (.int (2 : Int32))] [])) (fun t kt => ?_) ?_
            · show Steps p.tables e below (T5.setTop (mkF m 8 #[.val (.ref a0), .val (.int p1), .val (.ref a2), .val (.int (-1 : Int32)), .val (.int (2 : Int32))] [(.int p1), (.int (2 : Int32))])) t
              refine XS.icmpNo X5.here hx rfl (hb hby d6_8) rfl (tlt hc8_7).2.1 ?_
              exact kt
            refine OGo.step (F' := T5.setTop (mkF m 18 #[.val (.ref a0), .val (.int p1), .val (.ref a2), .val (.int (-1 : Int32)), .val (.int (2 : Int32))] [(.int (2 : Int32)), (.ref a0)])) (fun t kt => ?_) ?_
            · show Steps p.tables e below (T5.setTop (mkF m 11 #[.val (.ref a0), .val (.int p1), .val (.ref a2), .val (.int (-1 : Int32)), .val (.int (2 : Int32))] [])) t
              refine XS.iloadN X5.here hx rfl (hb hby d6_11) rfl ?_
              show Steps p.tables e below (T5.setTop (mkF m 12 #[.val (.ref a0), .val (.int p1), .val (.ref a2), .val (.int (-1 : Int32)), .val (.int (2 : Int32))] [(.int (-1 : Int32))])) t
              refine XS.ifNo X5.here hx rfl (hb hby d6_12) rfl ((if0 _ _).trans (tlt (by decide : (-1 : Int32) < (0 : Int32))).2.1) ?_
              show Steps p.tables e below (T5.setTop (mkF m 15 #[.val (.ref a0), .val (.int p1), .val (.ref a2), .val (.int (-1 : Int32)), .val (.int (2 : Int32))] [])) t
              refine XS.aloadN X5.here hx rfl (hb hby d6_15) rfl rfl ?_
              show Steps p.tables e below (T5.setTop (mkF m 16 #[.val (.ref a0), .val (.int p1), .val (.ref a2), .val (.int (-1 : Int32)), .val (.int (2 : Int32))] [(.ref a0)])) t
              refine XS.iload X5.here hx rfl (hb hby d6_16) rfl ?_
              exact kt
            obtain ⟨cl8, Ar8, q8, S8, N8a, H8, G8⟩ := id (V_a0)
            have hin8 : ¬ ((2 : Int32) < 0 ∨ cl8.slots.size ≤ ((2 : Int32)).toNatClampNeg) := inb_of S8 ⟨by decide, by decide⟩
            have hat8 : cl8.slots[((2 : Int32)).toNatClampNeg]? = some (.ref r2) := H8.at hin8 rfl
            refine OGo.step (F' := T5.setTop (mkF m 19 #[.val (.ref a0), .val (.int p1), .val (.ref a2), .val (.int (-1 : Int32)), .val (.int (2 : Int32))] [(.ref r2)])) (fun t kt => ?_) ?_
            · show Steps p.tables e below (T5.setTop (mkF m 18 #[.val (.ref a0), .val (.int p1), .val (.ref a2), .val (.int (-1 : Int32)), .val (.int (2 : Int32))] [(.int (2 : Int32)), (.ref a0)])) t
              refine X5.aaload hx (j := (2 : Int32)) (v := (.ref r2)) (by rw [e5]; exact Ar8.1) (State.isArrayOf_alike hZ.alike Ar8.2.1) rfl Ar8.2.2 hin8 hat8 (g := (mkF m 18 #[.val (.ref a0), .val (.int p1), .val (.ref a2), .val (.int (-1 : Int32)), .val (.int (2 : Int32))] [(.int (2 : Int32)), (.ref a0)])) rfl rfl (hb hby d6_18) _ ?_
              exact kt
            refine OGo.step (F' := T5.setTop (mkF m 20 #[.val (.ref a0), .val (.int p1), .val (.ref a2), .val (.int (-1 : Int32)), .val (.int (2 : Int32))] [(.ref a2), (.ref r2)])) (fun t kt => ?_) ?_
            · show Steps p.tables e below (T5.setTop (mkF m 19 #[.val (.ref a0), .val (.int p1), .val (.ref a2), .val (.int (-1 : Int32)), .val (.int (2 : Int32))] [(.ref r2)])) t
              refine XS.aloadN X5.here hx rfl (hb hby d6_19) rfl rfl ?_
              exact kt
            refine OGo.callV X5 hx hZ (y := (⟨"java/lang/String", "equals", "(Ljava/lang/Object;)Z"⟩ : MethodName)) (z := (⟨"java/lang/String", "equals", "(Ljava/lang/Object;)Z"⟩ : MethodName)) hown (own_wd hw 32 rfl) (own_wd hw 33 rfl) (notFace_of_selects (args := #[]) (mvT hZ (own_wd hw 35 rfl))) (own_wd hw 35 rfl) (own_wd hw 34 rfl) (own_wd hw 4 rfl) (own_wd hw 36 rfl) (by decide) (rm7 l Z az hw [] r2 a2 t2 tn b2 bn w_COMPACT_STRINGS h0 n0 Z0 E_a2 Fv_r2 Fv_a2 Fc_r2 Fc_a2 O_t2 O_tn hC S_String_COMPACT_STRINGS) (W := 0) (by decide) (by decide) E_r2 (g := (mkF m 20 #[.val (.ref a0), .val (.int p1), .val (.ref a2), .val (.int (-1 : Int32)), .val (.int (2 : Int32))] [(.ref a2), (.ref r2)])) rfl (by rw [hml]; rfl) (argsL := [(.ref a2)]) (rest := []) (lenOf pd_6_0 rfl) rfl (by show 2 * 0 + _ ≤ _; exact Nat.le_of_eq rfl) (hb hby d6_20) rfl e5 (by decide) (by decide) ?_
            rintro _ T9 L9 X9 ⟨rfl, Nq9, e9⟩
            have N9 := Fr.app N5 Nq9
            show OGo _ _ _ _ _ _ _ (T9.setTop (mkF m 23 #[.val (.ref a0), .val (.int p1), .val (.ref a2), .val (.int (-1 : Int32)), .val (.int (2 : Int32))] [(.int (f7 r2 a2 b2 bn))]))
            by_cases hc23_10 : (f7 r2 a2 b2 bn) = (0 : Int32)
            · refine OGo.step (F' := T9.setTop (mkF m 29 #[.val (.ref a0), .val (.int p1), .val (.ref a2), .val (.int (-1 : Int32)), .val (.int (2 : Int32))] [])) (fun t kt => ?_) ?_
              · show Steps p.tables e below (T9.setTop (mkF m 23 #[.val (.ref a0), .val (.int p1), .val (.ref a2), .val (.int (-1 : Int32)), .val (.int (2 : Int32))] [(.int (f7 r2 a2 b2 bn))])) t
                refine XS.ifYes X9.here hx rfl (pc0 := 23) (pc' := 29) rfl (hb hby d6_23) rfl ((if0 _ _).trans (teq hc23_10).1) (by decide) (by decide) ?_
                exact kt
              refine OGo.step (F' := T9.setTop (mkF m 8 #[.val (.ref a0), .val (.int p1), .val (.ref a2), .val (.int (-1 : Int32)), .val (.int (3 : Int32))] [(.int p1), (.int (3 : Int32))])) (fun t kt => ?_) ?_
              · show Steps p.tables e below (T9.setTop (mkF m 29 #[.val (.ref a0), .val (.int p1), .val (.ref a2), .val (.int (-1 : Int32)), .val (.int (2 : Int32))] [])) t
                refine XS.iinc X9.here hx rfl (hb hby d6_29) rfl (l' := #[.val (.ref a0), .val (.int p1), .val (.ref a2), .val (.int (-1 : Int32)), .val (.int (3 : Int32))]) rfl ?_
                show Steps p.tables e below (T9.setTop (mkF m 32 #[.val (.ref a0), .val (.int p1), .val (.ref a2), .val (.int (-1 : Int32)), .val (.int (3 : Int32))] [])) t
                refine XS.goto X9.here hx rfl (pc0 := 32) (pc' := 5) rfl (hb hby d6_32) (by decide) (by decide) ?_
                show Steps p.tables e below (T9.setTop (mkF m 5 #[.val (.ref a0), .val (.int p1), .val (.ref a2), .val (.int (-1 : Int32)), .val (.int (3 : Int32))] [])) t
                refine XS.iload X9.here hx rfl (hb hby d6_5) rfl ?_
                show Steps p.tables e below (T9.setTop (mkF m 7 #[.val (.ref a0), .val (.int p1), .val (.ref a2), .val (.int (-1 : Int32)), .val (.int (3 : Int32))] [(.int (3 : Int32))])) t
                refine XS.iloadN X9.here hx rfl (hb hby d6_7) rfl ?_
                exact kt
              by_cases hc8_11 : (3 : Int32) < p1
              · refine OGo.step (F' := T9.setTop (mkF m 11 #[.val (.ref a0), .val (.int p1), .val (.ref a2), .val (.int (-1 : Int32)), .val (.int (3 : Int32))] [])) (fun t kt => ?_) ?_
                · show Steps p.tables e below (T9.setTop (mkF m 8 #[.val (.ref a0), .val (.int p1), .val (.ref a2), .val (.int (-1 : Int32)), .val (.int (3 : Int32))] [(.int p1), (.int (3 : Int32))])) t
                  refine XS.icmpNo X9.here hx rfl (hb hby d6_8) rfl (tlt hc8_11).2.1 ?_
                  exact kt
                refine OGo.step (F' := T9.setTop (mkF m 18 #[.val (.ref a0), .val (.int p1), .val (.ref a2), .val (.int (-1 : Int32)), .val (.int (3 : Int32))] [(.int (3 : Int32)), (.ref a0)])) (fun t kt => ?_) ?_
                · show Steps p.tables e below (T9.setTop (mkF m 11 #[.val (.ref a0), .val (.int p1), .val (.ref a2), .val (.int (-1 : Int32)), .val (.int (3 : Int32))] [])) t
                  refine XS.iloadN X9.here hx rfl (hb hby d6_11) rfl ?_
                  show Steps p.tables e below (T9.setTop (mkF m 12 #[.val (.ref a0), .val (.int p1), .val (.ref a2), .val (.int (-1 : Int32)), .val (.int (3 : Int32))] [(.int (-1 : Int32))])) t
                  refine XS.ifNo X9.here hx rfl (hb hby d6_12) rfl ((if0 _ _).trans (tlt (by decide : (-1 : Int32) < (0 : Int32))).2.1) ?_
                  show Steps p.tables e below (T9.setTop (mkF m 15 #[.val (.ref a0), .val (.int p1), .val (.ref a2), .val (.int (-1 : Int32)), .val (.int (3 : Int32))] [])) t
                  refine XS.aloadN X9.here hx rfl (hb hby d6_15) rfl rfl ?_
                  show Steps p.tables e below (T9.setTop (mkF m 16 #[.val (.ref a0), .val (.int p1), .val (.ref a2), .val (.int (-1 : Int32)), .val (.int (3 : Int32))] [(.ref a0)])) t
                  refine XS.iload X9.here hx rfl (hb hby d6_16) rfl ?_
                  exact kt
                obtain ⟨cl12, Ar12, q12, S12, N12a, H12, G12⟩ := id (V_a0)
                have hin12 : ¬ ((3 : Int32) < 0 ∨ cl12.slots.size ≤ ((3 : Int32)).toNatClampNeg) := inb_of S12 ⟨by decide, by decide⟩
                have hat12 : cl12.slots[((3 : Int32)).toNatClampNeg]? = some (.ref r3) := H12.at hin12 rfl
                refine OGo.step (F' := T9.setTop (mkF m 19 #[.val (.ref a0), .val (.int p1), .val (.ref a2), .val (.int (-1 : Int32)), .val (.int (3 : Int32))] [(.ref r3)])) (fun t kt => ?_) ?_
                · show Steps p.tables e below (T9.setTop (mkF m 18 #[.val (.ref a0), .val (.int p1), .val (.ref a2), .val (.int (-1 : Int32)), .val (.int (3 : Int32))] [(.int (3 : Int32)), (.ref a0)])) t
                  refine X9.aaload hx (j := (3 : Int32)) (v := (.ref r3)) (by rw [e9]; exact Ar12.1) (State.isArrayOf_alike hZ.alike Ar12.2.1) rfl Ar12.2.2 hin12 hat12 (g := (mkF m 18 #[.val (.ref a0), .val (.int p1), .val (.ref a2), .val (.int (-1 : Int32)), .val (.int (3 : Int32))] [(.int (3 : Int32)), (.ref a0)])) rfl rfl (hb hby d6_18) _ ?_
                  exact kt
                refine OGo.step (F' := T9.setTop (mkF m 20 #[.val (.ref a0), .val (.int p1), .val (.ref a2), .val (.int (-1 : Int32)), .val (.int (3 : Int32))] [(.ref a2), (.ref r3)])) (fun t kt => ?_) ?_
                · show Steps p.tables e below (T9.setTop (mkF m 19 #[.val (.ref a0), .val (.int p1), .val (.ref a2), .val (.int (-1 : Int32)), .val (.int (3 : Int32))] [(.ref r3)])) t
                  refine XS.aloadN X9.here hx rfl (hb hby d6_19) rfl rfl ?_
                  exact kt
                refine OGo.callV X9 hx hZ (y := (⟨"java/lang/String", "equals", "(Ljava/lang/Object;)Z"⟩ : MethodName)) (z := (⟨"java/lang/String", "equals", "(Ljava/lang/Object;)Z"⟩ : MethodName)) hown (own_wd hw 32 rfl) (own_wd hw 33 rfl) (notFace_of_selects (args := #[]) (mvT hZ (own_wd hw 35 rfl))) (own_wd hw 35 rfl) (own_wd hw 34 rfl) (own_wd hw 4 rfl) (own_wd hw 36 rfl) (by decide) (rm7 l Z az hw [] r3 a2 t3 tn b3 bn w_COMPACT_STRINGS h0 n0 Z0 E_a2 Fv_r3 Fv_a2 Fc_r3 Fc_a2 O_t3 O_tn hC S_String_COMPACT_STRINGS) (W := 0) (by decide) (by decide) E_r3 (g := (mkF m 20 #[.val (.ref a0), .val (.int p1), .val (.ref a2), .val (.int (-1 : Int32)), .val (.int (3 : Int32))] [(.ref a2), (.ref r3)])) rfl (by rw [hml]; rfl) (argsL := [(.ref a2)]) (rest := []) (lenOf pd_6_0 rfl) rfl (by show 2 * 0 + _ ≤ _; exact Nat.le_of_eq rfl) (hb hby d6_20) rfl e9 (by decide) (by decide) ?_
                rintro _ T13 L13 X13 ⟨rfl, Nq13, e13⟩
                have N13 := Fr.app N9 Nq13
                show OGo _ _ _ _ _ _ _ (T13.setTop (mkF m 23 #[.val (.ref a0), .val (.int p1), .val (.ref a2), .val (.int (-1 : Int32)), .val (.int (3 : Int32))] [(.int (f7 r3 a2 b3 bn))]))
                by_cases hc23_14 : (f7 r3 a2 b3 bn) = (0 : Int32)
                · refine OGo.step (F' := T13.setTop (mkF m 29 #[.val (.ref a0), .val (.int p1), .val (.ref a2), .val (.int (-1 : Int32)), .val (.int (3 : Int32))] [])) (fun t kt => ?_) ?_
                  · show Steps p.tables e below (T13.setTop (mkF m 23 #[.val (.ref a0), .val (.int p1), .val (.ref a2), .val (.int (-1 : Int32)), .val (.int (3 : Int32))] [(.int (f7 r3 a2 b3 bn))])) t
                    refine XS.ifYes X13.here hx rfl (pc0 := 23) (pc' := 29) rfl (hb hby d6_23) rfl ((if0 _ _).trans (teq hc23_14).1) (by decide) (by decide) ?_
                    exact kt
                  refine OGo.step (F' := T13.setTop (mkF m 36 #[.val (.ref a0), .val (.int p1), .val (.ref a2), .val (.int (-1 : Int32)), .val (.int (4 : Int32))] [(.int (-1 : Int32))])) (fun t kt => ?_) ?_
                  · show Steps p.tables e below (T13.setTop (mkF m 29 #[.val (.ref a0), .val (.int p1), .val (.ref a2), .val (.int (-1 : Int32)), .val (.int (3 : Int32))] [])) t
                    refine XS.iinc X13.here hx rfl (hb hby d6_29) rfl (l' := #[.val (.ref a0), .val (.int p1), .val (.ref a2), .val (.int (-1 : Int32)), .val (.int (4 : Int32))]) rfl ?_
                    show Steps p.tables e below (T13.setTop (mkF m 32 #[.val (.ref a0), .val (.int p1), .val (.ref a2), .val (.int (-1 : Int32)), .val (.int (4 : Int32))] [])) t
                    refine XS.goto X13.here hx rfl (pc0 := 32) (pc' := 5) rfl (hb hby d6_32) (by decide) (by decide) ?_
                    show Steps p.tables e below (T13.setTop (mkF m 5 #[.val (.ref a0), .val (.int p1), .val (.ref a2), .val (.int (-1 : Int32)), .val (.int (4 : Int32))] [])) t
                    refine XS.iload X13.here hx rfl (hb hby d6_5) rfl ?_
                    show Steps p.tables e below (T13.setTop (mkF m 7 #[.val (.ref a0), .val (.int p1), .val (.ref a2), .val (.int (-1 : Int32)), .val (.int (4 : Int32))] [(.int (4 : Int32))])) t
                    refine XS.iloadN X13.here hx rfl (hb hby d6_7) rfl ?_
                    show Steps p.tables e below (T13.setTop (mkF m 8 #[.val (.ref a0), .val (.int p1), .val (.ref a2), .val (.int (-1 : Int32)), .val (.int (4 : Int32))] [(.int p1), (.int (4 : Int32))])) t
                    refine XS.icmpYes X13.here hx rfl (pc0 := 8) (pc' := 35) rfl (hb hby d6_8) rfl (flt (own_n4 hp)).2.1 (by decide) (by decide) ?_
                    show Steps p.tables e below (T13.setTop (mkF m 35 #[.val (.ref a0), .val (.int p1), .val (.ref a2), .val (.int (-1 : Int32)), .val (.int (4 : Int32))] [])) t
                    refine XS.iloadN X13.here hx rfl (hb hby d6_35) rfl ?_
                    exact kt
                  refine OGo.retI X13 hx hlk hret (hb hby d6_36) ?_ (by decide) (by decide)
                  exact ⟨(by rw [f6, if_pos hc8, if_pos hc23, if_pos hc8_3, if_pos hc23_6, if_pos hc8_7, if_pos hc23_10, if_pos hc8_11, if_pos hc23_14]), N13, e13⟩
                · refine OGo.step (F' := T13.setTop (mkF m 26 #[.val (.ref a0), .val (.int p1), .val (.ref a2), .val (.int (-1 : Int32)), .val (.int (3 : Int32))] [])) (fun t kt => ?_) ?_
                  · show Steps p.tables e below (T13.setTop (mkF m 23 #[.val (.ref a0), .val (.int p1), .val (.ref a2), .val (.int (-1 : Int32)), .val (.int (3 : Int32))] [(.int (f7 r3 a2 b3 bn))])) t
                    refine XS.ifNo X13.here hx rfl (hb hby d6_23) rfl ((if0 _ _).trans (feq hc23_14).1) ?_
                    exact kt
                  refine OGo.step (F' := T13.setTop (mkF m 36 #[.val (.ref a0), .val (.int p1), .val (.ref a2), .val (.int (3 : Int32)), .val (.int (4 : Int32))] [(.int (3 : Int32))])) (fun t kt => ?_) ?_
                  · show Steps p.tables e below (T13.setTop (mkF m 26 #[.val (.ref a0), .val (.int p1), .val (.ref a2), .val (.int (-1 : Int32)), .val (.int (3 : Int32))] [])) t
                    refine XS.iload X13.here hx rfl (hb hby d6_26) rfl ?_
                    show Steps p.tables e below (T13.setTop (mkF m 28 #[.val (.ref a0), .val (.int p1), .val (.ref a2), .val (.int (-1 : Int32)), .val (.int (3 : Int32))] [(.int (3 : Int32))])) t
                    refine XS.istoreN X13.here hx rfl (hb hby d6_28) rfl (l' := #[.val (.ref a0), .val (.int p1), .val (.ref a2), .val (.int (3 : Int32)), .val (.int (3 : Int32))]) rfl ?_
                    show Steps p.tables e below (T13.setTop (mkF m 29 #[.val (.ref a0), .val (.int p1), .val (.ref a2), .val (.int (3 : Int32)), .val (.int (3 : Int32))] [])) t
                    refine XS.iinc X13.here hx rfl (hb hby d6_29) rfl (l' := #[.val (.ref a0), .val (.int p1), .val (.ref a2), .val (.int (3 : Int32)), .val (.int (4 : Int32))]) rfl ?_
                    show Steps p.tables e below (T13.setTop (mkF m 32 #[.val (.ref a0), .val (.int p1), .val (.ref a2), .val (.int (3 : Int32)), .val (.int (4 : Int32))] [])) t
                    refine XS.goto X13.here hx rfl (pc0 := 32) (pc' := 5) rfl (hb hby d6_32) (by decide) (by decide) ?_
                    show Steps p.tables e below (T13.setTop (mkF m 5 #[.val (.ref a0), .val (.int p1), .val (.ref a2), .val (.int (3 : Int32)), .val (.int (4 : Int32))] [])) t
                    refine XS.iload X13.here hx rfl (hb hby d6_5) rfl ?_
                    show Steps p.tables e below (T13.setTop (mkF m 7 #[.val (.ref a0), .val (.int p1), .val (.ref a2), .val (.int (3 : Int32)), .val (.int (4 : Int32))] [(.int (4 : Int32))])) t
                    refine XS.iloadN X13.here hx rfl (hb hby d6_7) rfl ?_
                    show Steps p.tables e below (T13.setTop (mkF m 8 #[.val (.ref a0), .val (.int p1), .val (.ref a2), .val (.int (3 : Int32)), .val (.int (4 : Int32))] [(.int p1), (.int (4 : Int32))])) t
                    refine XS.icmpYes X13.here hx rfl (pc0 := 8) (pc' := 35) rfl (hb hby d6_8) rfl (flt (own_n4 hp)).2.1 (by decide) (by decide) ?_
                    show Steps p.tables e below (T13.setTop (mkF m 35 #[.val (.ref a0), .val (.int p1), .val (.ref a2), .val (.int (3 : Int32)), .val (.int (4 : Int32))] [])) t
                    refine XS.iloadN X13.here hx rfl (hb hby d6_35) rfl ?_
                    exact kt
                  refine OGo.retI X13 hx hlk hret (hb hby d6_36) ?_ (by decide) (by decide)
                  exact ⟨(by rw [f6, if_pos hc8, if_pos hc23, if_pos hc8_3, if_pos hc23_6, if_pos hc8_7, if_pos hc23_10, if_pos hc8_11, if_neg hc23_14]), N13, e13⟩
              · refine OGo.step (F' := T9.setTop (mkF m 35 #[.val (.ref a0), .val (.int p1), .val (.ref a2), .val (.int (-1 : Int32)), .val (.int (3 : Int32))] [])) (fun t kt => ?_) ?_
                · show Steps p.tables e below (T9.setTop (mkF m 8 #[.val (.ref a0), .val (.int p1), .val (.ref a2), .val (.int (-1 : Int32)), .val (.int (3 : Int32))] [(.int p1), (.int (3 : Int32))])) t
                  refine XS.icmpYes X9.here hx rfl (pc0 := 8) (pc' := 35) rfl (hb hby d6_8) rfl (flt hc8_11).2.1 (by decide) (by decide) ?_
                  exact kt
                refine OGo.step (F' := T9.setTop (mkF m 36 #[.val (.ref a0), .val (.int p1), .val (.ref a2), .val (.int (-1 : Int32)), .val (.int (3 : Int32))] [(.int (-1 : Int32))])) (fun t kt => ?_) ?_
                · show Steps p.tables e below (T9.setTop (mkF m 35 #[.val (.ref a0), .val (.int p1), .val (.ref a2), .val (.int (-1 : Int32)), .val (.int (3 : Int32))] [])) t
                  refine XS.iloadN X9.here hx rfl (hb hby d6_35) rfl ?_
                  exact kt
                refine OGo.retI X9 hx hlk hret (hb hby d6_36) ?_ (by decide) (by decide)
                exact ⟨(by rw [f6, if_pos hc8, if_pos hc23, if_pos hc8_3, if_pos hc23_6, if_pos hc8_7, if_pos hc23_10, if_neg hc8_11]), N9, e9⟩
            · refine OGo.step (F' := T9.setTop (mkF m 26 #[.val (.ref a0), .val (.int p1), .val (.ref a2), .val (.int (-1 : Int32)), .val (.int (2 : Int32))] [])) (fun t kt => ?_) ?_
              · show Steps p.tables e below (T9.setTop (mkF m 23 #[.val (.ref a0), .val (.int p1), .val (.ref a2), .val (.int (-1 : Int32)), .val (.int (2 : Int32))] [(.int (f7 r2 a2 b2 bn))])) t
                refine XS.ifNo X9.here hx rfl (hb hby d6_23) rfl ((if0 _ _).trans (feq hc23_10).1) ?_
                exact kt
              refine OGo.step (F' := T9.setTop (mkF m 8 #[.val (.ref a0), .val (.int p1), .val (.ref a2), .val (.int (2 : Int32)), .val (.int (3 : Int32))] [(.int p1), (.int (3 : Int32))])) (fun t kt => ?_) ?_
              · show Steps p.tables e below (T9.setTop (mkF m 26 #[.val (.ref a0), .val (.int p1), .val (.ref a2), .val (.int (-1 : Int32)), .val (.int (2 : Int32))] [])) t
                refine XS.iload X9.here hx rfl (hb hby d6_26) rfl ?_
                show Steps p.tables e below (T9.setTop (mkF m 28 #[.val (.ref a0), .val (.int p1), .val (.ref a2), .val (.int (-1 : Int32)), .val (.int (2 : Int32))] [(.int (2 : Int32))])) t
                refine XS.istoreN X9.here hx rfl (hb hby d6_28) rfl (l' := #[.val (.ref a0), .val (.int p1), .val (.ref a2), .val (.int (2 : Int32)), .val (.int (2 : Int32))]) rfl ?_
                show Steps p.tables e below (T9.setTop (mkF m 29 #[.val (.ref a0), .val (.int p1), .val (.ref a2), .val (.int (2 : Int32)), .val (.int (2 : Int32))] [])) t
                refine XS.iinc X9.here hx rfl (hb hby d6_29) rfl (l' := #[.val (.ref a0), .val (.int p1), .val (.ref a2), .val (.int (2 : Int32)), .val (.int (3 : Int32))]) rfl ?_
                show Steps p.tables e below (T9.setTop (mkF m 32 #[.val (.ref a0), .val (.int p1), .val (.ref a2), .val (.int (2 : Int32)), .val (.int (3 : Int32))] [])) t
                refine XS.goto X9.here hx rfl (pc0 := 32) (pc' := 5) rfl (hb hby d6_32) (by decide) (by decide) ?_
                show Steps p.tables e below (T9.setTop (mkF m 5 #[.val (.ref a0), .val (.int p1), .val (.ref a2), .val (.int (2 : Int32)), .val (.int (3 : Int32))] [])) t
                refine XS.iload X9.here hx rfl (hb hby d6_5) rfl ?_
                show Steps p.tables e below (T9.setTop (mkF m 7 #[.val (.ref a0), .val (.int p1), .val (.ref a2), .val (.int (2 : Int32)), .val (.int (3 : Int32))] [(.int (3 : Int32))])) t
                refine XS.iloadN X9.here hx rfl (hb hby d6_7) rfl ?_
                exact kt
              by_cases hc8_15 : (3 : Int32) < p1
              · refine OGo.step (F' := T9.setTop (mkF m 11 #[.val (.ref a0), .val (.int p1), .val (.ref a2), .val (.int (2 : Int32)), .val (.int (3 : Int32))] [])) (fun t kt => ?_) ?_
                · show Steps p.tables e below (T9.setTop (mkF m 8 #[.val (.ref a0), .val (.int p1), .val (.ref a2), .val (.int (2 : Int32)), .val (.int (3 : Int32))] [(.int p1), (.int (3 : Int32))])) t
                  refine XS.icmpNo X9.here hx rfl (hb hby d6_8) rfl (tlt hc8_15).2.1 ?_
                  exact kt
                refine OGo.step (F' := T9.setTop (mkF m 36 #[.val (.ref a0), .val (.int p1), .val (.ref a2), .val (.int (2 : Int32)), .val (.int (3 : Int32))] [(.int (2 : Int32))])) (fun t kt => ?_) ?_
                · show Steps p.tables e below (T9.setTop (mkF m 11 #[.val (.ref a0), .val (.int p1), .val (.ref a2), .val (.int (2 : Int32)), .val (.int (3 : Int32))] [])) t
                  refine XS.iloadN X9.here hx rfl (hb hby d6_11) rfl ?_
                  show Steps p.tables e below (T9.setTop (mkF m 12 #[.val (.ref a0), .val (.int p1), .val (.ref a2), .val (.int (2 : Int32)), .val (.int (3 : Int32))] [(.int (2 : Int32))])) t
                  refine XS.ifYes X9.here hx rfl (pc0 := 12) (pc' := 35) rfl (hb hby d6_12) rfl ((if0 _ _).trans (flt (by decide : ¬ ((2 : Int32) < (0 : Int32)))).2.1) (by decide) (by decide) ?_
                  show Steps p.tables e below (T9.setTop (mkF m 35 #[.val (.ref a0), .val (.int p1), .val (.ref a2), .val (.int (2 : Int32)), .val (.int (3 : Int32))] [])) t
                  refine XS.iloadN X9.here hx rfl (hb hby d6_35) rfl ?_
                  exact kt
                refine OGo.retI X9 hx hlk hret (hb hby d6_36) ?_ (by decide) (by decide)
                exact ⟨(by rw [f6, if_pos hc8, if_pos hc23, if_pos hc8_3, if_pos hc23_6, if_pos hc8_7, if_neg hc23_10, if_pos hc8_15]), N9, e9⟩
              · refine OGo.step (F' := T9.setTop (mkF m 35 #[.val (.ref a0), .val (.int p1), .val (.ref a2), .val (.int (2 : Int32)), .val (.int (3 : Int32))] [])) (fun t kt => ?_) ?_
                · show Steps p.tables e below (T9.setTop (mkF m 8 #[.val (.ref a0), .val (.int p1), .val (.ref a2), .val (.int (2 : Int32)), .val (.int (3 : Int32))] [(.int p1), (.int (3 : Int32))])) t
                  refine XS.icmpYes X9.here hx rfl (pc0 := 8) (pc' := 35) rfl (hb hby d6_8) rfl (flt hc8_15).2.1 (by decide) (by decide) ?_
                  exact kt
                refine OGo.step (F' := T9.setTop (mkF m 36 #[.val (.ref a0), .val (.int p1), .val (.ref a2), .val (.int (2 : Int32)), .val (.int (3 : Int32))] [(.int (2 : Int32))])) (fun t kt => ?_) ?_
                · show Steps p.tables e below (T9.setTop (mkF m 35 #[.val (.ref a0), .val (.int p1), .val (.ref a2), .val (.int (2 : Int32)), .val (.int (3 : Int32))] [])) t
                  refine XS.iloadN X9.here hx rfl (hb hby d6_35) rfl ?_
                  exact kt
                refine OGo.retI X9 hx hlk hret (hb hby d6_36) ?_ (by decide) (by decide)
                exact ⟨(by rw [f6, if_pos hc8, if_pos hc23, if_pos hc8_3, if_pos hc23_6, if_pos hc8_7, if_neg hc23_10, if_neg hc8_15]), N9, e9⟩
          · refine OGo.step (F' := T5.setTop (mkF m 35 #[.val (.ref a0), .val (.int p1), .val (.ref a2), .val (.int (-1 : Int32)), .val (.int (2 : Int32))] [])) (fun t kt => ?_) ?_
            · show Steps p.tables e below (T5.setTop (mkF m 8 #[.val (.ref a0), .val (.int p1), .val (.ref a2), .val (.int (-1 : Int32)), .val (.int (2 : Int32))] [(.int p1), (.int (2 : Int32))])) t
              refine XS.icmpYes X5.here hx rfl (pc0 := 8) (pc' := 35) rfl (hb hby d6_8) rfl (flt hc8_7).2.1 (by decide) (by decide) ?_
              exact kt
            refine OGo.step (F' := T5.setTop (mkF m 36 #[.val (.ref a0), .val (.int p1), .val (.ref a2), .val (.int (-1 : Int32)), .val (.int (2 : Int32))] [(.int (-1 : Int32))])) (fun t kt => ?_) ?_
            · show Steps p.tables e below (T5.setTop (mkF m 35 #[.val (.ref a0), .val (.int p1), .val (.ref a2), .val (.int (-1 : Int32)), .val (.int (2 : Int32))] [])) t
              refine XS.iloadN X5.here hx rfl (hb hby d6_35) rfl ?_
              exact kt
            refine OGo.retI X5 hx hlk hret (hb hby d6_36) ?_ (by decide) (by decide)
            exact ⟨(by rw [f6, if_pos hc8, if_pos hc23, if_pos hc8_3, if_pos hc23_6, if_neg hc8_7]), N5, e5⟩
        · refine OGo.step (F' := T5.setTop (mkF m 26 #[.val (.ref a0), .val (.int p1), .val (.ref a2), .val (.int (-1 : Int32)), .val (.int (1 : Int32))] [])) (fun t kt => ?_) ?_
          · show Steps p.tables e below (T5.setTop (mkF m 23 #[.val (.ref a0), .val (.int p1), .val (.ref a2), .val (.int (-1 : Int32)), .val (.int (1 : Int32))] [(.int (f7 r1 a2 b1 bn))])) t
            refine XS.ifNo X5.here hx rfl (hb hby d6_23) rfl ((if0 _ _).trans (feq hc23_6).1) ?_
            exact kt
          refine OGo.step (F' := T5.setTop (mkF m 8 #[.val (.ref a0), .val (.int p1), .val (.ref a2), .val (.int (1 : Int32)), .val (.int (2 : Int32))] [(.int p1), (.int (2 : Int32))])) (fun t kt => ?_) ?_
          · show Steps p.tables e below (T5.setTop (mkF m 26 #[.val (.ref a0), .val (.int p1), .val (.ref a2), .val (.int (-1 : Int32)), .val (.int (1 : Int32))] [])) t
            refine XS.iload X5.here hx rfl (hb hby d6_26) rfl ?_
            show Steps p.tables e below (T5.setTop (mkF m 28 #[.val (.ref a0), .val (.int p1), .val (.ref a2), .val (.int (-1 : Int32)), .val (.int (1 : Int32))] [(.int (1 : Int32))])) t
            refine XS.istoreN X5.here hx rfl (hb hby d6_28) rfl (l' := #[.val (.ref a0), .val (.int p1), .val (.ref a2), .val (.int (1 : Int32)), .val (.int (1 : Int32))]) rfl ?_
            show Steps p.tables e below (T5.setTop (mkF m 29 #[.val (.ref a0), .val (.int p1), .val (.ref a2), .val (.int (1 : Int32)), .val (.int (1 : Int32))] [])) t
            refine XS.iinc X5.here hx rfl (hb hby d6_29) rfl (l' := #[.val (.ref a0), .val (.int p1), .val (.ref a2), .val (.int (1 : Int32)), .val (.int (2 : Int32))]) rfl ?_
            show Steps p.tables e below (T5.setTop (mkF m 32 #[.val (.ref a0), .val (.int p1), .val (.ref a2), .val (.int (1 : Int32)), .val (.int (2 : Int32))] [])) t
            refine XS.goto X5.here hx rfl (pc0 := 32) (pc' := 5) rfl (hb hby d6_32) (by decide) (by decide) ?_
            show Steps p.tables e below (T5.setTop (mkF m 5 #[.val (.ref a0), .val (.int p1), .val (.ref a2), .val (.int (1 : Int32)), .val (.int (2 : Int32))] [])) t
            refine XS.iload X5.here hx rfl (hb hby d6_5) rfl ?_
            show Steps p.tables e below (T5.setTop (mkF m 7 #[.val (.ref a0), .val (.int p1), .val (.ref a2), .val (.int (1 : Int32)), .val (.int (2 : Int32))] [(.int (2 : Int32))])) t
            refine XS.iloadN X5.here hx rfl (hb hby d6_7) rfl ?_
            exact kt
          by_cases hc8_16 : (2 : Int32) < p1
          · refine OGo.step (F' := T5.setTop (mkF m 11 #[.val (.ref a0), .val (.int p1), .val (.ref a2), .val (.int (1 : Int32)), .val (.int (2 : Int32))] [])) (fun t kt => ?_) ?_
            · show Steps p.tables e below (T5.setTop (mkF m 8 #[.val (.ref a0), .val (.int p1), .val (.ref a2), .val (.int (1 : Int32)), .val (.int (2 : Int32))] [(.int p1), (.int (2 : Int32))])) t
              refine XS.icmpNo X5.here hx rfl (hb hby d6_8) rfl (tlt hc8_16).2.1 ?_
              exact kt
            refine OGo.step (F' := T5.setTop (mkF m 36 #[.val (.ref a0), .val (.int p1), .val (.ref a2), .val (.int (1 : Int32)), .val (.int (2 : Int32))] [(.int (1 : Int32))])) (fun t kt => ?_) ?_
            · show Steps p.tables e below (T5.setTop (mkF m 11 #[.val (.ref a0), .val (.int p1), .val (.ref a2), .val (.int (1 : Int32)), .val (.int (2 : Int32))] [])) t
              refine XS.iloadN X5.here hx rfl (hb hby d6_11) rfl ?_
              show Steps p.tables e below (T5.setTop (mkF m 12 #[.val (.ref a0), .val (.int p1), .val (.ref a2), .val (.int (1 : Int32)), .val (.int (2 : Int32))] [(.int (1 : Int32))])) t
              refine XS.ifYes X5.here hx rfl (pc0 := 12) (pc' := 35) rfl (hb hby d6_12) rfl ((if0 _ _).trans (flt (by decide : ¬ ((1 : Int32) < (0 : Int32)))).2.1) (by decide) (by decide) ?_
              show Steps p.tables e below (T5.setTop (mkF m 35 #[.val (.ref a0), .val (.int p1), .val (.ref a2), .val (.int (1 : Int32)), .val (.int (2 : Int32))] [])) t
              refine XS.iloadN X5.here hx rfl (hb hby d6_35) rfl ?_
              exact kt
            refine OGo.retI X5 hx hlk hret (hb hby d6_36) ?_ (by decide) (by decide)
            exact ⟨(by rw [f6, if_pos hc8, if_pos hc23, if_pos hc8_3, if_neg hc23_6, if_pos hc8_16]), N5, e5⟩
          · refine OGo.step (F' := T5.setTop (mkF m 35 #[.val (.ref a0), .val (.int p1), .val (.ref a2), .val (.int (1 : Int32)), .val (.int (2 : Int32))] [])) (fun t kt => ?_) ?_
            · show Steps p.tables e below (T5.setTop (mkF m 8 #[.val (.ref a0), .val (.int p1), .val (.ref a2), .val (.int (1 : Int32)), .val (.int (2 : Int32))] [(.int p1), (.int (2 : Int32))])) t
              refine XS.icmpYes X5.here hx rfl (pc0 := 8) (pc' := 35) rfl (hb hby d6_8) rfl (flt hc8_16).2.1 (by decide) (by decide) ?_
              exact kt
            refine OGo.step (F' := T5.setTop (mkF m 36 #[.val (.ref a0), .val (.int p1), .val (.ref a2), .val (.int (1 : Int32)), .val (.int (2 : Int32))] [(.int (1 : Int32))])) (fun t kt => ?_) ?_
            · show Steps p.tables e below (T5.setTop (mkF m 35 #[.val (.ref a0), .val (.int p1), .val (.ref a2), .val (.int (1 : Int32)), .val (.int (2 : Int32))] [])) t
              refine XS.iloadN X5.here hx rfl (hb hby d6_35) rfl ?_
              exact kt
            refine OGo.retI X5 hx hlk hret (hb hby d6_36) ?_ (by decide) (by decide)
            exact ⟨(by rw [f6, if_pos hc8, if_pos hc23, if_pos hc8_3, if_neg hc23_6, if_neg hc8_16]), N5, e5⟩
      · refine OGo.step (F' := T2.setTop (mkF m 35 #[.val (.ref a0), .val (.int p1), .val (.ref a2), .val (.int (-1 : Int32)), .val (.int (1 : Int32))] [])) (fun t kt => ?_) ?_
        · show Steps p.tables e below (T2.setTop (mkF m 8 #[.val (.ref a0), .val (.int p1), .val (.ref a2), .val (.int (-1 : Int32)), .val (.int (1 : Int32))] [(.int p1), (.int (1 : Int32))])) t
          refine XS.icmpYes X2.here hx rfl (pc0 := 8) (pc' := 35) rfl (hb hby d6_8) rfl (flt hc8_3).2.1 (by decide) (by decide) ?_
          exact kt
        refine OGo.step (F' := T2.setTop (mkF m 36 #[.val (.ref a0), .val (.int p1), .val (.ref a2), .val (.int (-1 : Int32)), .val (.int (1 : Int32))] [(.int (-1 : Int32))])) (fun t kt => ?_) ?_
        · show Steps p.tables e below (T2.setTop (mkF m 35 #[.val (.ref a0), .val (.int p1), .val (.ref a2), .val (.int (-1 : Int32)), .val (.int (1 : Int32))] [])) t
          refine XS.iloadN X2.here hx rfl (hb hby d6_35) rfl ?_
          exact kt
        refine OGo.retI X2 hx hlk hret (hb hby d6_36) ?_ (by decide) (by decide)
        exact ⟨(by rw [f6, if_pos hc8, if_pos hc23, if_neg hc8_3]), N2, e2⟩
    · refine OGo.step (F' := T2.setTop (mkF m 26 #[.val (.ref a0), .val (.int p1), .val (.ref a2), .val (.int (-1 : Int32)), .val (.int (0 : Int32))] [])) (fun t kt => ?_) ?_
      · show Steps p.tables e below (T2.setTop (mkF m 23 #[.val (.ref a0), .val (.int p1), .val (.ref a2), .val (.int (-1 : Int32)), .val (.int (0 : Int32))] [(.int (f7 r0 a2 b0 bn))])) t
        refine XS.ifNo X2.here hx rfl (hb hby d6_23) rfl ((if0 _ _).trans (feq hc23).1) ?_
        exact kt
      refine OGo.step (F' := T2.setTop (mkF m 8 #[.val (.ref a0), .val (.int p1), .val (.ref a2), .val (.int (0 : Int32)), .val (.int (1 : Int32))] [(.int p1), (.int (1 : Int32))])) (fun t kt => ?_) ?_
      · show Steps p.tables e below (T2.setTop (mkF m 26 #[.val (.ref a0), .val (.int p1), .val (.ref a2), .val (.int (-1 : Int32)), .val (.int (0 : Int32))] [])) t
        refine XS.iload X2.here hx rfl (hb hby d6_26) rfl ?_
        show Steps p.tables e below (T2.setTop (mkF m 28 #[.val (.ref a0), .val (.int p1), .val (.ref a2), .val (.int (-1 : Int32)), .val (.int (0 : Int32))] [(.int (0 : Int32))])) t
        refine XS.istoreN X2.here hx rfl (hb hby d6_28) rfl (l' := #[.val (.ref a0), .val (.int p1), .val (.ref a2), .val (.int (0 : Int32)), .val (.int (0 : Int32))]) rfl ?_
        show Steps p.tables e below (T2.setTop (mkF m 29 #[.val (.ref a0), .val (.int p1), .val (.ref a2), .val (.int (0 : Int32)), .val (.int (0 : Int32))] [])) t
        refine XS.iinc X2.here hx rfl (hb hby d6_29) rfl (l' := #[.val (.ref a0), .val (.int p1), .val (.ref a2), .val (.int (0 : Int32)), .val (.int (1 : Int32))]) rfl ?_
        show Steps p.tables e below (T2.setTop (mkF m 32 #[.val (.ref a0), .val (.int p1), .val (.ref a2), .val (.int (0 : Int32)), .val (.int (1 : Int32))] [])) t
        refine XS.goto X2.here hx rfl (pc0 := 32) (pc' := 5) rfl (hb hby d6_32) (by decide) (by decide) ?_
        show Steps p.tables e below (T2.setTop (mkF m 5 #[.val (.ref a0), .val (.int p1), .val (.ref a2), .val (.int (0 : Int32)), .val (.int (1 : Int32))] [])) t
        refine XS.iload X2.here hx rfl (hb hby d6_5) rfl ?_
        show Steps p.tables e below (T2.setTop (mkF m 7 #[.val (.ref a0), .val (.int p1), .val (.ref a2), .val (.int (0 : Int32)), .val (.int (1 : Int32))] [(.int (1 : Int32))])) t
        refine XS.iloadN X2.here hx rfl (hb hby d6_7) rfl ?_
        exact kt
      by_cases hc8_17 : (1 : Int32) < p1
      · refine OGo.step (F' := T2.setTop (mkF m 11 #[.val (.ref a0), .val (.int p1), .val (.ref a2), .val (.int (0 : Int32)), .val (.int (1 : Int32))] [])) (fun t kt => ?_) ?_
        · show Steps p.tables e below (T2.setTop (mkF m 8 #[.val (.ref a0), .val (.int p1), .val (.ref a2), .val (.int (0 : Int32)), .val (.int (1 : Int32))] [(.int p1), (.int (1 : Int32))])) t
          refine XS.icmpNo X2.here hx rfl (hb hby d6_8) rfl (tlt hc8_17).2.1 ?_
          exact kt
        refine OGo.step (F' := T2.setTop (mkF m 36 #[.val (.ref a0), .val (.int p1), .val (.ref a2), .val (.int (0 : Int32)), .val (.int (1 : Int32))] [(.int (0 : Int32))])) (fun t kt => ?_) ?_
        · show Steps p.tables e below (T2.setTop (mkF m 11 #[.val (.ref a0), .val (.int p1), .val (.ref a2), .val (.int (0 : Int32)), .val (.int (1 : Int32))] [])) t
          refine XS.iloadN X2.here hx rfl (hb hby d6_11) rfl ?_
          show Steps p.tables e below (T2.setTop (mkF m 12 #[.val (.ref a0), .val (.int p1), .val (.ref a2), .val (.int (0 : Int32)), .val (.int (1 : Int32))] [(.int (0 : Int32))])) t
          refine XS.ifYes X2.here hx rfl (pc0 := 12) (pc' := 35) rfl (hb hby d6_12) rfl ((if0 _ _).trans (flt (by decide : ¬ ((0 : Int32) < (0 : Int32)))).2.1) (by decide) (by decide) ?_
          show Steps p.tables e below (T2.setTop (mkF m 35 #[.val (.ref a0), .val (.int p1), .val (.ref a2), .val (.int (0 : Int32)), .val (.int (1 : Int32))] [])) t
          refine XS.iloadN X2.here hx rfl (hb hby d6_35) rfl ?_
          exact kt
        refine OGo.retI X2 hx hlk hret (hb hby d6_36) ?_ (by decide) (by decide)
        exact ⟨(by rw [f6, if_pos hc8, if_neg hc23, if_pos hc8_17]), N2, e2⟩
      · refine OGo.step (F' := T2.setTop (mkF m 35 #[.val (.ref a0), .val (.int p1), .val (.ref a2), .val (.int (0 : Int32)), .val (.int (1 : Int32))] [])) (fun t kt => ?_) ?_
        · show Steps p.tables e below (T2.setTop (mkF m 8 #[.val (.ref a0), .val (.int p1), .val (.ref a2), .val (.int (0 : Int32)), .val (.int (1 : Int32))] [(.int p1), (.int (1 : Int32))])) t
          refine XS.icmpYes X2.here hx rfl (pc0 := 8) (pc' := 35) rfl (hb hby d6_8) rfl (flt hc8_17).2.1 (by decide) (by decide) ?_
          exact kt
        refine OGo.step (F' := T2.setTop (mkF m 36 #[.val (.ref a0), .val (.int p1), .val (.ref a2), .val (.int (0 : Int32)), .val (.int (1 : Int32))] [(.int (0 : Int32))])) (fun t kt => ?_) ?_
        · show Steps p.tables e below (T2.setTop (mkF m 35 #[.val (.ref a0), .val (.int p1), .val (.ref a2), .val (.int (0 : Int32)), .val (.int (1 : Int32))] [])) t
          refine XS.iloadN X2.here hx rfl (hb hby d6_35) rfl ?_
          exact kt
        refine OGo.retI X2 hx hlk hret (hb hby d6_36) ?_ (by decide) (by decide)
        exact ⟨(by rw [f6, if_pos hc8, if_neg hc23, if_neg hc8_17]), N2, e2⟩
  · refine OGo.step (F' := s₁.setTop (mkF m 35 #[.val (.ref a0), .val (.int p1), .val (.ref a2), .val (.int (-1 : Int32)), .val (.int (0 : Int32))] [])) (fun t kt => ?_) ?_
    · show Steps p.tables e below (s₁.setTop (mkF m 8 #[.val (.ref a0), .val (.int p1), .val (.ref a2), .val (.int (-1 : Int32)), .val (.int (0 : Int32))] [(.int p1), (.int (0 : Int32))])) t
      refine XS.icmpYes X0.here hx rfl (pc0 := 8) (pc' := 35) rfl (hb hby d6_8) rfl (flt hc8).2.1 (by decide) (by decide) ?_
      exact kt
    refine OGo.step (F' := s₁.setTop (mkF m 36 #[.val (.ref a0), .val (.int p1), .val (.ref a2), .val (.int (-1 : Int32)), .val (.int (0 : Int32))] [(.int (-1 : Int32))])) (fun t kt => ?_) ?_
    · show Steps p.tables e below (s₁.setTop (mkF m 35 #[.val (.ref a0), .val (.int p1), .val (.ref a2), .val (.int (-1 : Int32)), .val (.int (0 : Int32))] [])) t
      refine XS.iloadN X0.here hx rfl (hb hby d6_35) rfl ?_
      exact kt
    refine OGo.retI X0 hx hlk hret (hb hby d6_36) ?_ (by decide) (by decide)
    exact ⟨(by rw [f6, if_neg hc8]), N0, e0⟩
/-! body 6: com/example/kette/kette/JsonObject.walk:([Ljava/lang/String;ILjava/lang/Object;)I -/
theorem pd_6z_0 : parseMethodDescriptor "(Ljava/lang/Object;)Z" = some ⟨[(.object "java/lang/Object")], some .boolean⟩ := by decide +kernel
theorem ef_6z (m : MethodId) (x0 : Addr) (x1 : Int32) : entryFrame m #[(.ref x0), (.int x1), .null] 5 = mkF m 0 #[.val (.ref x0), .val (.int x1), .val .null, .unset, .unset] [] := by first | (simp [entryFrame, mkF, argsToLocals, Value.category]; done) | rfl
def f6z (p1 : Int32) : Int32 :=
  if (0 : Int32) < p1 then (if (1 : Int32) < p1 then (if (2 : Int32) < p1 then (if (3 : Int32) < p1 then (-1 : Int32)
        else (-1 : Int32))
      else (-1 : Int32))
    else (-1 : Int32))
  else (-1 : Int32)
set_option maxRecDepth 65536 in
set_option maxHeartbeats 40000000 in
theorem rm6z (l : Launch) (Z : State) (az : Array Value) (hw : ∀ d ∈ tables_1, d.before az Z = true) (ws : List Jvm.Cond) (a0 : Addr) (p1 : Int32) (kk : ClassId) (r0 : Addr) (r1 : Addr) (r2 : Addr) (r3 : Addr) (h0 : Heap) (n0 : Nat) (Z0 : n0 ≤ h0.size) (V_a0 : Arv Z h0 a0 kk (.object "java/lang/String") (4 : Int32) [(.ref r0), (.ref r1), (.ref r2), (.ref r3)] .null) (E_r0 : Exa Z h0 r0 "java/lang/String") (E_r1 : Exa Z h0 r1 "java/lang/String") (E_r2 : Exa Z h0 r2 "java/lang/String") (E_r3 : Exa Z h0 r3 "java/lang/String") (hp : p1 < (5 : Int32)) :
    OCtr l Z (⟨"com/example/kette/kette/JsonObject", "walk", "([Ljava/lang/String;ILjava/lang/Object;)I"⟩ : MethodName) prog_30_method_4_code 5 (some .int) ws ({ frames := 1, cells := 0, slots := 0, locals := 14 } : Room) #[(.ref a0), (.int p1), .null] h0 (OPure (some (.int (f6z p1))) h0 n0) := by
  refine OCtr.of (plainFor_of_name pn_6) ?_
  intro p e s m below meth c s₁ X0 hx hlk hZ hown0 hnm hby hml0 hret e0
  have hown : s.vm.findClass "com/example/kette/kette/JsonObject" = some m.cls := hown0
  have hml : c.maxLocals = 5 := hml0
  have N0 := Fr.nil n0
  refine OGo.step (fun t k => castTop (ef_6z m a0 p1) k) ?_
  refine OGo.step (F' := s₁.setTop (mkF m 8 #[.val (.ref a0), .val (.int p1), .val .null, .val (.int (-1 : Int32)), .val (.int (0 : Int32))] [(.int p1), (.int (0 : Int32))])) (fun t kt => ?_) ?_
  · show Steps p.tables e below (s₁.setTop (mkF m 0 #[.val (.ref a0), .val (.int p1), .val .null, .unset, .unset] [])) t
    refine XS.iconst X0.here hx rfl (hb hby d6_0) ?_
    show Steps p.tables e below (s₁.setTop (mkF m 1 #[.val (.ref a0), .val (.int p1), .val .null, .unset, .unset] [(.int (-1 : Int32))])) t
    refine XS.istoreN X0.here hx rfl (hb hby d6_1) rfl (l' := #[.val (.ref a0), .val (.int p1), .val .null, .val (.int (-1 : Int32)), .unset]) rfl ?_
    show Steps p.tables e below (s₁.setTop (mkF m 2 #[.val (.ref a0), .val (.int p1), .val .null, .val (.int (-1 : Int32)), .unset] [])) t
    refine XS.iconst X0.here hx rfl (hb hby d6_2) ?_
    show Steps p.tables e below (s₁.setTop (mkF m 3 #[.val (.ref a0), .val (.int p1), .val .null, .val (.int (-1 : Int32)), .unset] [(.int (0 : Int32))])) t
    refine XS.istore X0.here hx rfl (hb hby d6_3) rfl (l' := #[.val (.ref a0), .val (.int p1), .val .null, .val (.int (-1 : Int32)), .val (.int (0 : Int32))]) rfl ?_
    show Steps p.tables e below (s₁.setTop (mkF m 5 #[.val (.ref a0), .val (.int p1), .val .null, .val (.int (-1 : Int32)), .val (.int (0 : Int32))] [])) t
    refine XS.iload X0.here hx rfl (hb hby d6_5) rfl ?_
    show Steps p.tables e below (s₁.setTop (mkF m 7 #[.val (.ref a0), .val (.int p1), .val .null, .val (.int (-1 : Int32)), .val (.int (0 : Int32))] [(.int (0 : Int32))])) t
    refine XS.iloadN X0.here hx rfl (hb hby d6_7) rfl ?_
    exact kt
  by_cases hc8 : (0 : Int32) < p1
  · refine OGo.step (F' := s₁.setTop (mkF m 11 #[.val (.ref a0), .val (.int p1), .val .null, .val (.int (-1 : Int32)), .val (.int (0 : Int32))] [])) (fun t kt => ?_) ?_
    · show Steps p.tables e below (s₁.setTop (mkF m 8 #[.val (.ref a0), .val (.int p1), .val .null, .val (.int (-1 : Int32)), .val (.int (0 : Int32))] [(.int p1), (.int (0 : Int32))])) t
      refine XS.icmpNo X0.here hx rfl (hb hby d6_8) rfl (tlt hc8).2.1 ?_
      exact kt
    refine OGo.step (F' := s₁.setTop (mkF m 18 #[.val (.ref a0), .val (.int p1), .val .null, .val (.int (-1 : Int32)), .val (.int (0 : Int32))] [(.int (0 : Int32)), (.ref a0)])) (fun t kt => ?_) ?_
    · show Steps p.tables e below (s₁.setTop (mkF m 11 #[.val (.ref a0), .val (.int p1), .val .null, .val (.int (-1 : Int32)), .val (.int (0 : Int32))] [])) t
      refine XS.iloadN X0.here hx rfl (hb hby d6_11) rfl ?_
      show Steps p.tables e below (s₁.setTop (mkF m 12 #[.val (.ref a0), .val (.int p1), .val .null, .val (.int (-1 : Int32)), .val (.int (0 : Int32))] [(.int (-1 : Int32))])) t
      refine XS.ifNo X0.here hx rfl (hb hby d6_12) rfl ((if0 _ _).trans (tlt (by decide : (-1 : Int32) < (0 : Int32))).2.1) ?_
      show Steps p.tables e below (s₁.setTop (mkF m 15 #[.val (.ref a0), .val (.int p1), .val .null, .val (.int (-1 : Int32)), .val (.int (0 : Int32))] [])) t
      refine XS.aloadN X0.here hx rfl (hb hby d6_15) rfl rfl ?_
      show Steps p.tables e below (s₁.setTop (mkF m 16 #[.val (.ref a0), .val (.int p1), .val .null, .val (.int (-1 : Int32)), .val (.int (0 : Int32))] [(.ref a0)])) t
      refine XS.iload X0.here hx rfl (hb hby d6_16) rfl ?_
      exact kt
    obtain ⟨cl1, Ar1, q1, S1, N1a, H1, G1⟩ := id (V_a0)
    have hin1 : ¬ ((0 : Int32) < 0 ∨ cl1.slots.size ≤ ((0 : Int32)).toNatClampNeg) := inb_of S1 ⟨by decide, by decide⟩
    have hat1 : cl1.slots[((0 : Int32)).toNatClampNeg]? = some (.ref r0) := H1.at hin1 rfl
    refine OGo.step (F' := s₁.setTop (mkF m 19 #[.val (.ref a0), .val (.int p1), .val .null, .val (.int (-1 : Int32)), .val (.int (0 : Int32))] [(.ref r0)])) (fun t kt => ?_) ?_
    · show Steps p.tables e below (s₁.setTop (mkF m 18 #[.val (.ref a0), .val (.int p1), .val .null, .val (.int (-1 : Int32)), .val (.int (0 : Int32))] [(.int (0 : Int32)), (.ref a0)])) t
      refine X0.aaload hx (j := (0 : Int32)) (v := (.ref r0)) (by rw [e0]; exact Ar1.1) (State.isArrayOf_alike hZ.alike Ar1.2.1) rfl Ar1.2.2 hin1 hat1 (g := (mkF m 18 #[.val (.ref a0), .val (.int p1), .val .null, .val (.int (-1 : Int32)), .val (.int (0 : Int32))] [(.int (0 : Int32)), (.ref a0)])) rfl rfl (hb hby d6_18) _ ?_
      exact kt
    refine OGo.step (F' := s₁.setTop (mkF m 20 #[.val (.ref a0), .val (.int p1), .val .null, .val (.int (-1 : Int32)), .val (.int (0 : Int32))] [.null, (.ref r0)])) (fun t kt => ?_) ?_
    · show Steps p.tables e below (s₁.setTop (mkF m 19 #[.val (.ref a0), .val (.int p1), .val .null, .val (.int (-1 : Int32)), .val (.int (0 : Int32))] [(.ref r0)])) t
      refine XS.aloadN X0.here hx rfl (hb hby d6_19) rfl rfl ?_
      exact kt
    refine OGo.callV X0 hx hZ (y := (⟨"java/lang/String", "equals", "(Ljava/lang/Object;)Z"⟩ : MethodName)) (z := (⟨"java/lang/String", "equals", "(Ljava/lang/Object;)Z"⟩ : MethodName)) hown (own_wd hw 32 rfl) (own_wd hw 33 rfl) (notFace_of_selects (args := #[]) (mvT hZ (own_wd hw 35 rfl))) (own_wd hw 35 rfl) (own_wd hw 34 rfl) (own_wd hw 4 rfl) (own_wd hw 36 rfl) (by decide) (rm7z l Z az hw [] r0 h0 n0 Z0) (W := 0) (by decide) (by decide) E_r0 (g := (mkF m 20 #[.val (.ref a0), .val (.int p1), .val .null, .val (.int (-1 : Int32)), .val (.int (0 : Int32))] [.null, (.ref r0)])) rfl (by rw [hml]; rfl) (argsL := [.null]) (rest := []) (lenOf pd_6z_0 rfl) rfl (by show 2 * 0 + _ ≤ _; exact Nat.le_of_eq rfl) (hb hby d6_20) rfl e0 (by decide) (by decide) ?_
    rintro _ T2 L2 X2 ⟨hv2, Nq2, e2⟩
    have N2 := Fr.app N0 Nq2
    rw [show f7z = (0 : Int32) from rfl] at hv2
    subst hv2
    show OGo _ _ _ _ _ _ _ (T2.setTop (mkF m 23 #[.val (.ref a0), .val (.int p1), .val .null, .val (.int (-1 : Int32)), .val (.int (0 : Int32))] [(.int (0 : Int32))]))
    refine OGo.step (F' := T2.setTop (mkF m 8 #[.val (.ref a0), .val (.int p1), .val .null, .val (.int (-1 : Int32)), .val (.int (1 : Int32))] [(.int p1), (.int (1 : Int32))])) (fun t kt => ?_) ?_
    · show Steps p.tables e below (T2.setTop (mkF m 23 #[.val (.ref a0), .val (.int p1), .val .null, .val (.int (-1 : Int32)), .val (.int (0 : Int32))] [(.int (0 : Int32))])) t
      refine XS.ifYes X2.here hx rfl (pc0 := 23) (pc' := 29) rfl (hb hby d6_23) rfl ((if0 _ _).trans (teq (by decide : (0 : Int32) = (0 : Int32))).1) (by decide) (by decide) ?_
      show Steps p.tables e below (T2.setTop (mkF m 29 #[.val (.ref a0), .val (.int p1), .val .null, .val (.int (-1 : Int32)), .val (.int (0 : Int32))] [])) t
      refine XS.iinc X2.here hx rfl (hb hby d6_29) rfl (l' := #[.val (.ref a0), .val (.int p1), .val .null, .val (.int (-1 : Int32)), .val (.int (1 : Int32))]) rfl ?_
      show Steps p.tables e below (T2.setTop (mkF m 32 #[.val (.ref a0), .val (.int p1), .val .null, .val (.int (-1 : Int32)), .val (.int (1 : Int32))] [])) t
      refine XS.goto X2.here hx rfl (pc0 := 32) (pc' := 5) rfl (hb hby d6_32) (by decide) (by decide) ?_
      show Steps p.tables e below (T2.setTop (mkF m 5 #[.val (.ref a0), .val (.int p1), .val .null, .val (.int (-1 : Int32)), .val (.int (1 : Int32))] [])) t
      refine XS.iload X2.here hx rfl (hb hby d6_5) rfl ?_
      show Steps p.tables e below (T2.setTop (mkF m 7 #[.val (.ref a0), .val (.int p1), .val .null, .val (.int (-1 : Int32)), .val (.int (1 : Int32))] [(.int (1 : Int32))])) t
      refine XS.iloadN X2.here hx rfl (hb hby d6_7) rfl ?_
      exact kt
    by_cases hc8_3 : (1 : Int32) < p1
    · refine OGo.step (F' := T2.setTop (mkF m 11 #[.val (.ref a0), .val (.int p1), .val .null, .val (.int (-1 : Int32)), .val (.int (1 : Int32))] [])) (fun t kt => ?_) ?_
      · show Steps p.tables e below (T2.setTop (mkF m 8 #[.val (.ref a0), .val (.int p1), .val .null, .val (.int (-1 : Int32)), .val (.int (1 : Int32))] [(.int p1), (.int (1 : Int32))])) t
        refine XS.icmpNo X2.here hx rfl (hb hby d6_8) rfl (tlt hc8_3).2.1 ?_
        exact kt
      refine OGo.step (F' := T2.setTop (mkF m 18 #[.val (.ref a0), .val (.int p1), .val .null, .val (.int (-1 : Int32)), .val (.int (1 : Int32))] [(.int (1 : Int32)), (.ref a0)])) (fun t kt => ?_) ?_
      · show Steps p.tables e below (T2.setTop (mkF m 11 #[.val (.ref a0), .val (.int p1), .val .null, .val (.int (-1 : Int32)), .val (.int (1 : Int32))] [])) t
        refine XS.iloadN X2.here hx rfl (hb hby d6_11) rfl ?_
        show Steps p.tables e below (T2.setTop (mkF m 12 #[.val (.ref a0), .val (.int p1), .val .null, .val (.int (-1 : Int32)), .val (.int (1 : Int32))] [(.int (-1 : Int32))])) t
        refine XS.ifNo X2.here hx rfl (hb hby d6_12) rfl ((if0 _ _).trans (tlt (by decide : (-1 : Int32) < (0 : Int32))).2.1) ?_
        show Steps p.tables e below (T2.setTop (mkF m 15 #[.val (.ref a0), .val (.int p1), .val .null, .val (.int (-1 : Int32)), .val (.int (1 : Int32))] [])) t
        refine XS.aloadN X2.here hx rfl (hb hby d6_15) rfl rfl ?_
        show Steps p.tables e below (T2.setTop (mkF m 16 #[.val (.ref a0), .val (.int p1), .val .null, .val (.int (-1 : Int32)), .val (.int (1 : Int32))] [(.ref a0)])) t
        refine XS.iload X2.here hx rfl (hb hby d6_16) rfl ?_
        exact kt
      obtain ⟨cl4, Ar4, q4, S4, N4a, H4, G4⟩ := id (V_a0)
      have hin4 : ¬ ((1 : Int32) < 0 ∨ cl4.slots.size ≤ ((1 : Int32)).toNatClampNeg) := inb_of S4 ⟨by decide, by decide⟩
      have hat4 : cl4.slots[((1 : Int32)).toNatClampNeg]? = some (.ref r1) := H4.at hin4 rfl
      refine OGo.step (F' := T2.setTop (mkF m 19 #[.val (.ref a0), .val (.int p1), .val .null, .val (.int (-1 : Int32)), .val (.int (1 : Int32))] [(.ref r1)])) (fun t kt => ?_) ?_
      · show Steps p.tables e below (T2.setTop (mkF m 18 #[.val (.ref a0), .val (.int p1), .val .null, .val (.int (-1 : Int32)), .val (.int (1 : Int32))] [(.int (1 : Int32)), (.ref a0)])) t
        refine X2.aaload hx (j := (1 : Int32)) (v := (.ref r1)) (by rw [e2]; exact Ar4.1) (State.isArrayOf_alike hZ.alike Ar4.2.1) rfl Ar4.2.2 hin4 hat4 (g := (mkF m 18 #[.val (.ref a0), .val (.int p1), .val .null, .val (.int (-1 : Int32)), .val (.int (1 : Int32))] [(.int (1 : Int32)), (.ref a0)])) rfl rfl (hb hby d6_18) _ ?_
        exact kt
      refine OGo.step (F' := T2.setTop (mkF m 20 #[.val (.ref a0), .val (.int p1), .val .null, .val (.int (-1 : Int32)), .val (.int (1 : Int32))] [.null, (.ref r1)])) (fun t kt => ?_) ?_
      · show Steps p.tables e below (T2.setTop (mkF m 19 #[.val (.ref a0), .val (.int p1), .val .null, .val (.int (-1 : Int32)), .val (.int (1 : Int32))] [(.ref r1)])) t
        refine XS.aloadN X2.here hx rfl (hb hby d6_19) rfl rfl ?_
        exact kt
      refine OGo.callV X2 hx hZ (y := (⟨"java/lang/String", "equals", "(Ljava/lang/Object;)Z"⟩ : MethodName)) (z := (⟨"java/lang/String", "equals", "(Ljava/lang/Object;)Z"⟩ : MethodName)) hown (own_wd hw 32 rfl) (own_wd hw 33 rfl) (notFace_of_selects (args := #[]) (mvT hZ (own_wd hw 35 rfl))) (own_wd hw 35 rfl) (own_wd hw 34 rfl) (own_wd hw 4 rfl) (own_wd hw 36 rfl) (by decide) (rm7z l Z az hw [] r1 h0 n0 Z0) (W := 0) (by decide) (by decide) E_r1 (g := (mkF m 20 #[.val (.ref a0), .val (.int p1), .val .null, .val (.int (-1 : Int32)), .val (.int (1 : Int32))] [.null, (.ref r1)])) rfl (by rw [hml]; rfl) (argsL := [.null]) (rest := []) (lenOf pd_6z_0 rfl) rfl (by show 2 * 0 + _ ≤ _; exact Nat.le_of_eq rfl) (hb hby d6_20) rfl e2 (by decide) (by decide) ?_
      rintro _ T5 L5 X5 ⟨hv5, Nq5, e5⟩
      have N5 := Fr.app N2 Nq5
      rw [show f7z = (0 : Int32) from rfl] at hv5
      subst hv5
      show OGo _ _ _ _ _ _ _ (T5.setTop (mkF m 23 #[.val (.ref a0), .val (.int p1), .val .null, .val (.int (-1 : Int32)), .val (.int (1 : Int32))] [(.int (0 : Int32))]))
      refine OGo.step (F' := T5.setTop (mkF m 8 #[.val (.ref a0), .val (.int p1), .val .null, .val (.int (-1 : Int32)), .val (.int (2 : Int32))] [(.int p1), (.int (2 : Int32))])) (fun t kt => ?_) ?_
      · show Steps p.tables e below (T5.setTop (mkF m 23 #[.val (.ref a0), .val (.int p1), .val .null, .val (.int (-1 : Int32)), .val (.int (1 : Int32))] [(.int (0 : Int32))])) t
        refine XS.ifYes X5.here hx rfl (pc0 := 23) (pc' := 29) rfl (hb hby d6_23) rfl ((if0 _ _).trans (teq (by decide : (0 : Int32) = (0 : Int32))).1) (by decide) (by decide) ?_
        show Steps p.tables e below (T5.setTop (mkF m 29 #[.val (.ref a0), .val (.int p1), .val .null, .val (.int (-1 : Int32)), .val (.int (1 : Int32))] [])) t
        refine XS.iinc X5.here hx rfl (hb hby d6_29) rfl (l' := #[.val (.ref a0), .val (.int p1), .val .null, .val (.int (-1 : Int32)), .val (.int (2 : Int32))]) rfl ?_
        show Steps p.tables e below (T5.setTop (mkF m 32 #[.val (.ref a0), .val (.int p1), .val .null, .val (.int (-1 : Int32)), .val (.int (2 : Int32))] [])) t
        refine XS.goto X5.here hx rfl (pc0 := 32) (pc' := 5) rfl (hb hby d6_32) (by decide) (by decide) ?_
        show Steps p.tables e below (T5.setTop (mkF m 5 #[.val (.ref a0), .val (.int p1), .val .null, .val (.int (-1 : Int32)), .val (.int (2 : Int32))] [])) t
        refine XS.iload X5.here hx rfl (hb hby d6_5) rfl ?_
        show Steps p.tables e below (T5.setTop (mkF m 7 #[.val (.ref a0), .val (.int p1), .val .null, .val (.int (-1 : Int32)), .val (.int (2 : Int32))] [(.int (2 : Int32))])) t
        refine XS.iloadN X5.here hx rfl (hb hby d6_7) rfl ?_
        exact kt
      by_cases hc8_6 : (2 : Int32) < p1
      · refine OGo.step (F' := T5.setTop (mkF m 11 #[.val (.ref a0), .val (.int p1), .val .null, .val (.int (-1 : Int32)), .val (.int (2 : Int32))] [])) (fun t kt => ?_) ?_
        · show Steps p.tables e below (T5.setTop (mkF m 8 #[.val (.ref a0), .val (.int p1), .val .null, .val (.int (-1 : Int32)), .val (.int (2 : Int32))] [(.int p1), (.int (2 : Int32))])) t
          refine XS.icmpNo X5.here hx rfl (hb hby d6_8) rfl (tlt hc8_6).2.1 ?_
          exact kt
        refine OGo.step (F' := T5.setTop (mkF m 18 #[.val (.ref a0), .val (.int p1), .val .null, .val (.int (-1 : Int32)), .val (.int (2 : Int32))] [(.int (2 : Int32)), (.ref a0)])) (fun t kt => ?_) ?_
        · show Steps p.tables e below (T5.setTop (mkF m 11 #[.val (.ref a0), .val (.int p1), .val .null, .val (.int (-1 : Int32)), .val (.int (2 : Int32))] [])) t
          refine XS.iloadN X5.here hx rfl (hb hby d6_11) rfl ?_
          show Steps p.tables e below (T5.setTop (mkF m 12 #[.val (.ref a0), .val (.int p1), .val .null, .val (.int (-1 : Int32)), .val (.int (2 : Int32))] [(.int (-1 : Int32))])) t
          refine XS.ifNo X5.here hx rfl (hb hby d6_12) rfl ((if0 _ _).trans (tlt (by decide : (-1 : Int32) < (0 : Int32))).2.1) ?_
          show Steps p.tables e below (T5.setTop (mkF m 15 #[.val (.ref a0), .val (.int p1), .val .null, .val (.int (-1 : Int32)), .val (.int (2 : Int32))] [])) t
          refine XS.aloadN X5.here hx rfl (hb hby d6_15) rfl rfl ?_
          show Steps p.tables e below (T5.setTop (mkF m 16 #[.val (.ref a0), .val (.int p1), .val .null, .val (.int (-1 : Int32)), .val (.int (2 : Int32))] [(.ref a0)])) t
          refine XS.iload X5.here hx rfl (hb hby d6_16) rfl ?_
          exact kt
        obtain ⟨cl7, Ar7, q7, S7, N7a, H7, G7⟩ := id (V_a0)
        have hin7 : ¬ ((2 : Int32) < 0 ∨ cl7.slots.size ≤ ((2 : Int32)).toNatClampNeg) := inb_of S7 ⟨by decide, by decide⟩
        have hat7 : cl7.slots[((2 : Int32)).toNatClampNeg]? = some (.ref r2) := H7.at hin7 rfl
        refine OGo.step (F' := T5.setTop (mkF m 19 #[.val (.ref a0), .val (.int p1), .val .null, .val (.int (-1 : Int32)), .val (.int (2 : Int32))] [(.ref r2)])) (fun t kt => ?_) ?_
        · show Steps p.tables e below (T5.setTop (mkF m 18 #[.val (.ref a0), .val (.int p1), .val .null, .val (.int (-1 : Int32)), .val (.int (2 : Int32))] [(.int (2 : Int32)), (.ref a0)])) t
          refine X5.aaload hx (j := (2 : Int32)) (v := (.ref r2)) (by rw [e5]; exact Ar7.1) (State.isArrayOf_alike hZ.alike Ar7.2.1) rfl Ar7.2.2 hin7 hat7 (g := (mkF m 18 #[.val (.ref a0), .val (.int p1), .val .null, .val (.int (-1 : Int32)), .val (.int (2 : Int32))] [(.int (2 : Int32)), (.ref a0)])) rfl rfl (hb hby d6_18) _ ?_
          exact kt
        refine OGo.step (F' := T5.setTop (mkF m 20 #[.val (.ref a0), .val (.int p1), .val .null, .val (.int (-1 : Int32)), .val (.int (2 : Int32))] [.null, (.ref r2)])) (fun t kt => ?_) ?_
        · show Steps p.tables e below (T5.setTop (mkF m 19 #[.val (.ref a0), .val (.int p1), .val .null, .val (.int (-1 : Int32)), .val (.int (2 : Int32))] [(.ref r2)])) t
          refine XS.aloadN X5.here hx rfl (hb hby d6_19) rfl rfl ?_
          exact kt
        refine OGo.callV X5 hx hZ (y := (⟨"java/lang/String", "equals", "(Ljava/lang/Object;)Z"⟩ : MethodName)) (z := (⟨"java/lang/String", "equals", "(Ljava/lang/Object;)Z"⟩ : MethodName)) hown (own_wd hw 32 rfl) (own_wd hw 33 rfl) (notFace_of_selects (args := #[]) (mvT hZ (own_wd hw 35 rfl))) (own_wd hw 35 rfl) (own_wd hw 34 rfl) (own_wd hw 4 rfl) (own_wd hw 36 rfl) (by decide) (rm7z l Z az hw [] r2 h0 n0 Z0) (W := 0) (by decide) (by decide) E_r2 (g := (mkF m 20 #[.val (.ref a0), .val (.int p1), .val .null, .val (.int (-1 : Int32)), .val (.int (2 : Int32))] [.null, (.ref r2)])) rfl (by rw [hml]; rfl) (argsL := [.null]) (rest := []) (lenOf pd_6z_0 rfl) rfl (by show 2 * 0 + _ ≤ _; exact Nat.le_of_eq rfl) (hb hby d6_20) rfl e5 (by decide) (by decide) ?_
        rintro _ T8 L8 X8 ⟨hv8, Nq8, e8⟩
        have N8 := Fr.app N5 Nq8
        rw [show f7z = (0 : Int32) from rfl] at hv8
        subst hv8
        show OGo _ _ _ _ _ _ _ (T8.setTop (mkF m 23 #[.val (.ref a0), .val (.int p1), .val .null, .val (.int (-1 : Int32)), .val (.int (2 : Int32))] [(.int (0 : Int32))]))
        refine OGo.step (F' := T8.setTop (mkF m 8 #[.val (.ref a0), .val (.int p1), .val .null, .val (.int (-1 : Int32)), .val (.int (3 : Int32))] [(.int p1), (.int (3 : Int32))])) (fun t kt => ?_) ?_
        · show Steps p.tables e below (T8.setTop (mkF m 23 #[.val (.ref a0), .val (.int p1), .val .null, .val (.int (-1 : Int32)), .val (.int (2 : Int32))] [(.int (0 : Int32))])) t
          refine XS.ifYes X8.here hx rfl (pc0 := 23) (pc' := 29) rfl (hb hby d6_23) rfl ((if0 _ _).trans (teq (by decide : (0 : Int32) = (0 : Int32))).1) (by decide) (by decide) ?_
          show Steps p.tables e below (T8.setTop (mkF m 29 #[.val (.ref a0), .val (.int p1), .val .null, .val (.int (-1 : Int32)), .val (.int (2 : Int32))] [])) t
          refine XS.iinc X8.here hx rfl (hb hby d6_29) rfl (l' := #[.val (.ref a0), .val (.int p1), .val .null, .val (.int (-1 : Int32)), .val (.int (3 : Int32))]) rfl ?_
          show Steps p.tables e below (T8.setTop (mkF m 32 #[.val (.ref a0), .val (.int p1), .val .null, .val (.int (-1 : Int32)), .val (.int (3 : Int32))] [])) t
          refine XS.goto X8.here hx rfl (pc0 := 32) (pc' := 5) rfl (hb hby d6_32) (by decide) (by decide) ?_
          show Steps p.tables e below (T8.setTop (mkF m 5 #[.val (.ref a0), .val (.int p1), .val .null, .val (.int (-1 : Int32)), .val (.int (3 : Int32))] [])) t
          refine XS.iload X8.here hx rfl (hb hby d6_5) rfl ?_
          show Steps p.tables e below (T8.setTop (mkF m 7 #[.val (.ref a0), .val (.int p1), .val .null, .val (.int (-1 : Int32)), .val (.int (3 : Int32))] [(.int (3 : Int32))])) t
          refine XS.iloadN X8.here hx rfl (hb hby d6_7) rfl ?_
          exact kt
        by_cases hc8_9 : (3 : Int32) < p1
        · refine OGo.step (F' := T8.setTop (mkF m 11 #[.val (.ref a0), .val (.int p1), .val .null, .val (.int (-1 : Int32)), .val (.int (3 : Int32))] [])) (fun t kt => ?_) ?_
          · show Steps p.tables e below (T8.setTop (mkF m 8 #[.val (.ref a0), .val (.int p1), .val .null, .val (.int (-1 : Int32)), .val (.int (3 : Int32))] [(.int p1), (.int (3 : Int32))])) t
            refine XS.icmpNo X8.here hx rfl (hb hby d6_8) rfl (tlt hc8_9).2.1 ?_
            exact kt
          refine OGo.step (F' := T8.setTop (mkF m 18 #[.val (.ref a0), .val (.int p1), .val .null, .val (.int (-1 : Int32)), .val (.int (3 : Int32))] [(.int (3 : Int32)), (.ref a0)])) (fun t kt => ?_) ?_
          · show Steps p.tables e below (T8.setTop (mkF m 11 #[.val (.ref a0), .val (.int p1), .val .null, .val (.int (-1 : Int32)), .val (.int (3 : Int32))] [])) t
            refine XS.iloadN X8.here hx rfl (hb hby d6_11) rfl ?_
            show Steps p.tables e below (T8.setTop (mkF m 12 #[.val (.ref a0), .val (.int p1), .val .null, .val (.int (-1 : Int32)), .val (.int (3 : Int32))] [(.int (-1 : Int32))])) t
            refine XS.ifNo X8.here hx rfl (hb hby d6_12) rfl ((if0 _ _).trans (tlt (by decide : (-1 : Int32) < (0 : Int32))).2.1) ?_
            show Steps p.tables e below (T8.setTop (mkF m 15 #[.val (.ref a0), .val (.int p1), .val .null, .val (.int (-1 : Int32)), .val (.int (3 : Int32))] [])) t
            refine XS.aloadN X8.here hx rfl (hb hby d6_15) rfl rfl ?_
            show Steps p.tables e below (T8.setTop (mkF m 16 #[.val (.ref a0), .val (.int p1), .val .null, .val (.int (-1 : Int32)), .val (.int (3 : Int32))] [(.ref a0)])) t
            refine XS.iload X8.here hx rfl (hb hby d6_16) rfl ?_
            exact kt
          obtain ⟨cl10, Ar10, q10, S10, N10a, H10, G10⟩ := id (V_a0)
          have hin10 : ¬ ((3 : Int32) < 0 ∨ cl10.slots.size ≤ ((3 : Int32)).toNatClampNeg) := inb_of S10 ⟨by decide, by decide⟩
          have hat10 : cl10.slots[((3 : Int32)).toNatClampNeg]? = some (.ref r3) := H10.at hin10 rfl
          refine OGo.step (F' := T8.setTop (mkF m 19 #[.val (.ref a0), .val (.int p1), .val .null, .val (.int (-1 : Int32)), .val (.int (3 : Int32))] [(.ref r3)])) (fun t kt => ?_) ?_
          · show Steps p.tables e below (T8.setTop (mkF m 18 #[.val (.ref a0), .val (.int p1), .val .null, .val (.int (-1 : Int32)), .val (.int (3 : Int32))] [(.int (3 : Int32)), (.ref a0)])) t
            refine X8.aaload hx (j := (3 : Int32)) (v := (.ref r3)) (by rw [e8]; exact Ar10.1) (State.isArrayOf_alike hZ.alike Ar10.2.1) rfl Ar10.2.2 hin10 hat10 (g := (mkF m 18 #[.val (.ref a0), .val (.int p1), .val .null, .val (.int (-1 : Int32)), .val (.int (3 : Int32))] [(.int (3 : Int32)), (.ref a0)])) rfl rfl (hb hby d6_18) _ ?_
            exact kt
          refine OGo.step (F' := T8.setTop (mkF m 20 #[.val (.ref a0), .val (.int p1), .val .null, .val (.int (-1 : Int32)), .val (.int (3 : Int32))] [.null, (.ref r3)])) (fun t kt => ?_) ?_
          · show Steps p.tables e below (T8.setTop (mkF m 19 #[.val (.ref a0), .val (.int p1), .val .null, .val (.int (-1 : Int32)), .val (.int (3 : Int32))] [(.ref r3)])) t
            refine XS.aloadN X8.here hx rfl (hb hby d6_19) rfl rfl ?_
            exact kt
          refine OGo.callV X8 hx hZ (y := (⟨"java/lang/String", "equals", "(Ljava/lang/Object;)Z"⟩ : MethodName)) (z := (⟨"java/lang/String", "equals", "(Ljava/lang/Object;)Z"⟩ : MethodName)) hown (own_wd hw 32 rfl) (own_wd hw 33 rfl) (notFace_of_selects (args := #[]) (mvT hZ (own_wd hw 35 rfl))) (own_wd hw 35 rfl) (own_wd hw 34 rfl) (own_wd hw 4 rfl) (own_wd hw 36 rfl) (by decide) (rm7z l Z az hw [] r3 h0 n0 Z0) (W := 0) (by decide) (by decide) E_r3 (g := (mkF m 20 #[.val (.ref a0), .val (.int p1), .val .null, .val (.int (-1 : Int32)), .val (.int (3 : Int32))] [.null, (.ref r3)])) rfl (by rw [hml]; rfl) (argsL := [.null]) (rest := []) (lenOf pd_6z_0 rfl) rfl (by show 2 * 0 + _ ≤ _; exact Nat.le_of_eq rfl) (hb hby d6_20) rfl e8 (by decide) (by decide) ?_
          rintro _ T11 L11 X11 ⟨hv11, Nq11, e11⟩
          have N11 := Fr.app N8 Nq11
          rw [show f7z = (0 : Int32) from rfl] at hv11
          subst hv11
          show OGo _ _ _ _ _ _ _ (T11.setTop (mkF m 23 #[.val (.ref a0), .val (.int p1), .val .null, .val (.int (-1 : Int32)), .val (.int (3 : Int32))] [(.int (0 : Int32))]))
          refine OGo.step (F' := T11.setTop (mkF m 36 #[.val (.ref a0), .val (.int p1), .val .null, .val (.int (-1 : Int32)), .val (.int (4 : Int32))] [(.int (-1 : Int32))])) (fun t kt => ?_) ?_
          · show Steps p.tables e below (T11.setTop (mkF m 23 #[.val (.ref a0), .val (.int p1), .val .null, .val (.int (-1 : Int32)), .val (.int (3 : Int32))] [(.int (0 : Int32))])) t
            refine XS.ifYes X11.here hx rfl (pc0 := 23) (pc' := 29) rfl (hb hby d6_23) rfl ((if0 _ _).trans (teq (by decide : (0 : Int32) = (0 : Int32))).1) (by decide) (by decide) ?_
            show Steps p.tables e below (T11.setTop (mkF m 29 #[.val (.ref a0), .val (.int p1), .val .null, .val (.int (-1 : Int32)), .val (.int (3 : Int32))] [])) t
            refine XS.iinc X11.here hx rfl (hb hby d6_29) rfl (l' := #[.val (.ref a0), .val (.int p1), .val .null, .val (.int (-1 : Int32)), .val (.int (4 : Int32))]) rfl ?_
            show Steps p.tables e below (T11.setTop (mkF m 32 #[.val (.ref a0), .val (.int p1), .val .null, .val (.int (-1 : Int32)), .val (.int (4 : Int32))] [])) t
            refine XS.goto X11.here hx rfl (pc0 := 32) (pc' := 5) rfl (hb hby d6_32) (by decide) (by decide) ?_
            show Steps p.tables e below (T11.setTop (mkF m 5 #[.val (.ref a0), .val (.int p1), .val .null, .val (.int (-1 : Int32)), .val (.int (4 : Int32))] [])) t
            refine XS.iload X11.here hx rfl (hb hby d6_5) rfl ?_
            show Steps p.tables e below (T11.setTop (mkF m 7 #[.val (.ref a0), .val (.int p1), .val .null, .val (.int (-1 : Int32)), .val (.int (4 : Int32))] [(.int (4 : Int32))])) t
            refine XS.iloadN X11.here hx rfl (hb hby d6_7) rfl ?_
            show Steps p.tables e below (T11.setTop (mkF m 8 #[.val (.ref a0), .val (.int p1), .val .null, .val (.int (-1 : Int32)), .val (.int (4 : Int32))] [(.int p1), (.int (4 : Int32))])) t
            refine XS.icmpYes X11.here hx rfl (pc0 := 8) (pc' := 35) rfl (hb hby d6_8) rfl (flt (own_n4 hp)).2.1 (by decide) (by decide) ?_
            show Steps p.tables e below (T11.setTop (mkF m 35 #[.val (.ref a0), .val (.int p1), .val .null, .val (.int (-1 : Int32)), .val (.int (4 : Int32))] [])) t
            refine XS.iloadN X11.here hx rfl (hb hby d6_35) rfl ?_
            exact kt
          refine OGo.retI X11 hx hlk hret (hb hby d6_36) ?_ (by decide) (by decide)
          exact ⟨(by rw [f6z, if_pos hc8, if_pos hc8_3, if_pos hc8_6, if_pos hc8_9]), N11, e11⟩
        · refine OGo.step (F' := T8.setTop (mkF m 35 #[.val (.ref a0), .val (.int p1), .val .null, .val (.int (-1 : Int32)), .val (.int (3 : Int32))] [])) (fun t kt => ?_) ?_
          · show Steps p.tables e below (T8.setTop (mkF m 8 #[.val (.ref a0), .val (.int p1), .val .null, .val (.int (-1 : Int32)), .val (.int (3 : Int32))] [(.int p1), (.int (3 : Int32))])) t
            refine XS.icmpYes X8.here hx rfl (pc0 := 8) (pc' := 35) rfl (hb hby d6_8) rfl (flt hc8_9).2.1 (by decide) (by decide) ?_
            exact kt
          refine OGo.step (F' := T8.setTop (mkF m 36 #[.val (.ref a0), .val (.int p1), .val .null, .val (.int (-1 : Int32)), .val (.int (3 : Int32))] [(.int (-1 : Int32))])) (fun t kt => ?_) ?_
          · show Steps p.tables e below (T8.setTop (mkF m 35 #[.val (.ref a0), .val (.int p1), .val .null, .val (.int (-1 : Int32)), .val (.int (3 : Int32))] [])) t
            refine XS.iloadN X8.here hx rfl (hb hby d6_35) rfl ?_
            exact kt
          refine OGo.retI X8 hx hlk hret (hb hby d6_36) ?_ (by decide) (by decide)
          exact ⟨(by rw [f6z, if_pos hc8, if_pos hc8_3, if_pos hc8_6, if_neg hc8_9]), N8, e8⟩
      · refine OGo.step (F' := T5.setTop (mkF m 35 #[.val (.ref a0), .val (.int p1), .val .null, .val (.int (-1 : Int32)), .val (.int (2 : Int32))] [])) (fun t kt => ?_) ?_
        · show Steps p.tables e below (T5.setTop (mkF m 8 #[.val (.ref a0), .val (.int p1), .val .null, .val (.int (-1 : Int32)), .val (.int (2 : Int32))] [(.int p1), (.int (2 : Int32))])) t
          refine XS.icmpYes X5.here hx rfl (pc0 := 8) (pc' := 35) rfl (hb hby d6_8) rfl (flt hc8_6).2.1 (by decide) (by decide) ?_
          exact kt
        refine OGo.step (F' := T5.setTop (mkF m 36 #[.val (.ref a0), .val (.int p1), .val .null, .val (.int (-1 : Int32)), .val (.int (2 : Int32))] [(.int (-1 : Int32))])) (fun t kt => ?_) ?_
        · show Steps p.tables e below (T5.setTop (mkF m 35 #[.val (.ref a0), .val (.int p1), .val .null, .val (.int (-1 : Int32)), .val (.int (2 : Int32))] [])) t
          refine XS.iloadN X5.here hx rfl (hb hby d6_35) rfl ?_
          exact kt
        refine OGo.retI X5 hx hlk hret (hb hby d6_36) ?_ (by decide) (by decide)
        exact ⟨(by rw [f6z, if_pos hc8, if_pos hc8_3, if_neg hc8_6]), N5, e5⟩
    · refine OGo.step (F' := T2.setTop (mkF m 35 #[.val (.ref a0), .val (.int p1), .val .null, .val (.int (-1 : Int32)), .val (.int (1 : Int32))] [])) (fun t kt => ?_) ?_
      · show Steps p.tables e below (T2.setTop (mkF m 8 #[.val (.ref a0), .val (.int p1), .val .null, .val (.int (-1 : Int32)), .val (.int (1 : Int32))] [(.int p1), (.int (1 : Int32))])) t
        refine XS.icmpYes X2.here hx rfl (pc0 := 8) (pc' := 35) rfl (hb hby d6_8) rfl (flt hc8_3).2.1 (by decide) (by decide) ?_
        exact kt
      refine OGo.step (F' := T2.setTop (mkF m 36 #[.val (.ref a0), .val (.int p1), .val .null, .val (.int (-1 : Int32)), .val (.int (1 : Int32))] [(.int (-1 : Int32))])) (fun t kt => ?_) ?_
      · show Steps p.tables e below (T2.setTop (mkF m 35 #[.val (.ref a0), .val (.int p1), .val .null, .val (.int (-1 : Int32)), .val (.int (1 : Int32))] [])) t
        refine XS.iloadN X2.here hx rfl (hb hby d6_35) rfl ?_
        exact kt
      refine OGo.retI X2 hx hlk hret (hb hby d6_36) ?_ (by decide) (by decide)
      exact ⟨(by rw [f6z, if_pos hc8, if_neg hc8_3]), N2, e2⟩
  · refine OGo.step (F' := s₁.setTop (mkF m 35 #[.val (.ref a0), .val (.int p1), .val .null, .val (.int (-1 : Int32)), .val (.int (0 : Int32))] [])) (fun t kt => ?_) ?_
    · show Steps p.tables e below (s₁.setTop (mkF m 8 #[.val (.ref a0), .val (.int p1), .val .null, .val (.int (-1 : Int32)), .val (.int (0 : Int32))] [(.int p1), (.int (0 : Int32))])) t
      refine XS.icmpYes X0.here hx rfl (pc0 := 8) (pc' := 35) rfl (hb hby d6_8) rfl (flt hc8).2.1 (by decide) (by decide) ?_
      exact kt
    refine OGo.step (F' := s₁.setTop (mkF m 36 #[.val (.ref a0), .val (.int p1), .val .null, .val (.int (-1 : Int32)), .val (.int (0 : Int32))] [(.int (-1 : Int32))])) (fun t kt => ?_) ?_
    · show Steps p.tables e below (s₁.setTop (mkF m 35 #[.val (.ref a0), .val (.int p1), .val .null, .val (.int (-1 : Int32)), .val (.int (0 : Int32))] [])) t
      refine XS.iloadN X0.here hx rfl (hb hby d6_35) rfl ?_
      exact kt
    refine OGo.retI X0 hx hlk hret (hb hby d6_36) ?_ (by decide) (by decide)
    exact ⟨(by rw [f6z, if_neg hc8]), N0, e0⟩
/-! body 6: com/example/kette/kette/JsonObject.walk:([Ljava/lang/String;ILjava/lang/Object;)I -/
theorem pd_6n_0 : parseMethodDescriptor "(Ljava/lang/Object;)Z" = some ⟨[(.object "java/lang/Object")], some .boolean⟩ := by decide +kernel
theorem ef_6n (m : MethodId) (x0 : Addr) (x1 : Int32) (x2 : Addr) : entryFrame m #[(.ref x0), (.int x1), (.ref x2)] 5 = mkF m 0 #[.val (.ref x0), .val (.int x1), .val (.ref x2), .unset, .unset] [] := by first | (simp [entryFrame, mkF, argsToLocals, Value.category]; done) | rfl
def f6n (p1 : Int32) : Int32 :=
  if (0 : Int32) < p1 then (if (1 : Int32) < p1 then (if (2 : Int32) < p1 then (if (3 : Int32) < p1 then (-1 : Int32)
        else (-1 : Int32))
      else (-1 : Int32))
    else (-1 : Int32))
  else (-1 : Int32)
set_option maxRecDepth 65536 in
set_option maxHeartbeats 40000000 in
theorem rm6n (l : Launch) (Z : State) (az : Array Value) (hw : ∀ d ∈ tables_1, d.before az Z = true) (ws : List Jvm.Cond) (a0 : Addr) (p1 : Int32) (a2 : Addr) (kk : ClassId) (r0 : Addr) (r1 : Addr) (r2 : Addr) (r3 : Addr) (h0 : Heap) (n0 : Nat) (Z0 : n0 ≤ h0.size) (V_a0 : Arv Z h0 a0 kk (.object "java/lang/String") (4 : Int32) [(.ref r0), (.ref r1), (.ref r2), (.ref r3)] .null) (E_r0 : Exa Z h0 r0 "java/lang/String") (E_r1 : Exa Z h0 r1 "java/lang/String") (E_r2 : Exa Z h0 r2 "java/lang/String") (E_r3 : Exa Z h0 r3 "java/lang/String") (E_a2 : Exa Z h0 a2 "java/lang/Integer") (hp : p1 < (5 : Int32)) :
    OCtr l Z (⟨"com/example/kette/kette/JsonObject", "walk", "([Ljava/lang/String;ILjava/lang/Object;)I"⟩ : MethodName) prog_30_method_4_code 5 (some .int) ws ({ frames := 1, cells := 0, slots := 0, locals := 14 } : Room) #[(.ref a0), (.int p1), (.ref a2)] h0 (OPure (some (.int (f6n p1))) h0 n0) := by
  refine OCtr.of (plainFor_of_name pn_6) ?_
  intro p e s m below meth c s₁ X0 hx hlk hZ hown0 hnm hby hml0 hret e0
  have hown : s.vm.findClass "com/example/kette/kette/JsonObject" = some m.cls := hown0
  have hml : c.maxLocals = 5 := hml0
  have N0 := Fr.nil n0
  refine OGo.step (fun t k => castTop (ef_6n m a0 p1 a2) k) ?_
  refine OGo.step (F' := s₁.setTop (mkF m 8 #[.val (.ref a0), .val (.int p1), .val (.ref a2), .val (.int (-1 : Int32)), .val (.int (0 : Int32))] [(.int p1), (.int (0 : Int32))])) (fun t kt => ?_) ?_
  · show Steps p.tables e below (s₁.setTop (mkF m 0 #[.val (.ref a0), .val (.int p1), .val (.ref a2), .unset, .unset] [])) t
    refine XS.iconst X0.here hx rfl (hb hby d6_0) ?_
    show Steps p.tables e below (s₁.setTop (mkF m 1 #[.val (.ref a0), .val (.int p1), .val (.ref a2), .unset, .unset] [(.int (-1 : Int32))])) t
    refine XS.istoreN X0.here hx rfl (hb hby d6_1) rfl (l' := #[.val (.ref a0), .val (.int p1), .val (.ref a2), .val (.int (-1 : Int32)), .unset]) rfl ?_
    show Steps p.tables e below (s₁.setTop (mkF m 2 #[.val (.ref a0), .val (.int p1), .val (.ref a2), .val (.int (-1 : Int32)), .unset] [])) t
    refine XS.iconst X0.here hx rfl (hb hby d6_2) ?_
    show Steps p.tables e below (s₁.setTop (mkF m 3 #[.val (.ref a0), .val (.int p1), .val (.ref a2), .val (.int (-1 : Int32)), .unset] [(.int (0 : Int32))])) t
    refine XS.istore X0.here hx rfl (hb hby d6_3) rfl (l' := #[.val (.ref a0), .val (.int p1), .val (.ref a2), .val (.int (-1 : Int32)), .val (.int (0 : Int32))]) rfl ?_
    show Steps p.tables e below (s₁.setTop (mkF m 5 #[.val (.ref a0), .val (.int p1), .val (.ref a2), .val (.int (-1 : Int32)), .val (.int (0 : Int32))] [])) t
    refine XS.iload X0.here hx rfl (hb hby d6_5) rfl ?_
    show Steps p.tables e below (s₁.setTop (mkF m 7 #[.val (.ref a0), .val (.int p1), .val (.ref a2), .val (.int (-1 : Int32)), .val (.int (0 : Int32))] [(.int (0 : Int32))])) t
    refine XS.iloadN X0.here hx rfl (hb hby d6_7) rfl ?_
    exact kt
  by_cases hc8 : (0 : Int32) < p1
  · refine OGo.step (F' := s₁.setTop (mkF m 11 #[.val (.ref a0), .val (.int p1), .val (.ref a2), .val (.int (-1 : Int32)), .val (.int (0 : Int32))] [])) (fun t kt => ?_) ?_
    · show Steps p.tables e below (s₁.setTop (mkF m 8 #[.val (.ref a0), .val (.int p1), .val (.ref a2), .val (.int (-1 : Int32)), .val (.int (0 : Int32))] [(.int p1), (.int (0 : Int32))])) t
      refine XS.icmpNo X0.here hx rfl (hb hby d6_8) rfl (tlt hc8).2.1 ?_
      exact kt
    refine OGo.step (F' := s₁.setTop (mkF m 18 #[.val (.ref a0), .val (.int p1), .val (.ref a2), .val (.int (-1 : Int32)), .val (.int (0 : Int32))] [(.int (0 : Int32)), (.ref a0)])) (fun t kt => ?_) ?_
    · show Steps p.tables e below (s₁.setTop (mkF m 11 #[.val (.ref a0), .val (.int p1), .val (.ref a2), .val (.int (-1 : Int32)), .val (.int (0 : Int32))] [])) t
      refine XS.iloadN X0.here hx rfl (hb hby d6_11) rfl ?_
      show Steps p.tables e below (s₁.setTop (mkF m 12 #[.val (.ref a0), .val (.int p1), .val (.ref a2), .val (.int (-1 : Int32)), .val (.int (0 : Int32))] [(.int (-1 : Int32))])) t
      refine XS.ifNo X0.here hx rfl (hb hby d6_12) rfl ((if0 _ _).trans (tlt (by decide : (-1 : Int32) < (0 : Int32))).2.1) ?_
      show Steps p.tables e below (s₁.setTop (mkF m 15 #[.val (.ref a0), .val (.int p1), .val (.ref a2), .val (.int (-1 : Int32)), .val (.int (0 : Int32))] [])) t
      refine XS.aloadN X0.here hx rfl (hb hby d6_15) rfl rfl ?_
      show Steps p.tables e below (s₁.setTop (mkF m 16 #[.val (.ref a0), .val (.int p1), .val (.ref a2), .val (.int (-1 : Int32)), .val (.int (0 : Int32))] [(.ref a0)])) t
      refine XS.iload X0.here hx rfl (hb hby d6_16) rfl ?_
      exact kt
    obtain ⟨cl1, Ar1, q1, S1, N1a, H1, G1⟩ := id (V_a0)
    have hin1 : ¬ ((0 : Int32) < 0 ∨ cl1.slots.size ≤ ((0 : Int32)).toNatClampNeg) := inb_of S1 ⟨by decide, by decide⟩
    have hat1 : cl1.slots[((0 : Int32)).toNatClampNeg]? = some (.ref r0) := H1.at hin1 rfl
    refine OGo.step (F' := s₁.setTop (mkF m 19 #[.val (.ref a0), .val (.int p1), .val (.ref a2), .val (.int (-1 : Int32)), .val (.int (0 : Int32))] [(.ref r0)])) (fun t kt => ?_) ?_
    · show Steps p.tables e below (s₁.setTop (mkF m 18 #[.val (.ref a0), .val (.int p1), .val (.ref a2), .val (.int (-1 : Int32)), .val (.int (0 : Int32))] [(.int (0 : Int32)), (.ref a0)])) t
      refine X0.aaload hx (j := (0 : Int32)) (v := (.ref r0)) (by rw [e0]; exact Ar1.1) (State.isArrayOf_alike hZ.alike Ar1.2.1) rfl Ar1.2.2 hin1 hat1 (g := (mkF m 18 #[.val (.ref a0), .val (.int p1), .val (.ref a2), .val (.int (-1 : Int32)), .val (.int (0 : Int32))] [(.int (0 : Int32)), (.ref a0)])) rfl rfl (hb hby d6_18) _ ?_
      exact kt
    refine OGo.step (F' := s₁.setTop (mkF m 20 #[.val (.ref a0), .val (.int p1), .val (.ref a2), .val (.int (-1 : Int32)), .val (.int (0 : Int32))] [(.ref a2), (.ref r0)])) (fun t kt => ?_) ?_
    · show Steps p.tables e below (s₁.setTop (mkF m 19 #[.val (.ref a0), .val (.int p1), .val (.ref a2), .val (.int (-1 : Int32)), .val (.int (0 : Int32))] [(.ref r0)])) t
      refine XS.aloadN X0.here hx rfl (hb hby d6_19) rfl rfl ?_
      exact kt
    refine OGo.callV X0 hx hZ (y := (⟨"java/lang/String", "equals", "(Ljava/lang/Object;)Z"⟩ : MethodName)) (z := (⟨"java/lang/String", "equals", "(Ljava/lang/Object;)Z"⟩ : MethodName)) hown (own_wd hw 32 rfl) (own_wd hw 33 rfl) (notFace_of_selects (args := #[]) (mvT hZ (own_wd hw 35 rfl))) (own_wd hw 35 rfl) (own_wd hw 34 rfl) (own_wd hw 4 rfl) (own_wd hw 36 rfl) (by decide) (rm7n l Z az hw [] r0 a2 h0 n0 Z0 E_a2 (ne_exa E_r0 E_a2 (by decide))) (W := 0) (by decide) (by decide) E_r0 (g := (mkF m 20 #[.val (.ref a0), .val (.int p1), .val (.ref a2), .val (.int (-1 : Int32)), .val (.int (0 : Int32))] [(.ref a2), (.ref r0)])) rfl (by rw [hml]; rfl) (argsL := [(.ref a2)]) (rest := []) (lenOf pd_6n_0 rfl) rfl (by show 2 * 0 + _ ≤ _; exact Nat.le_of_eq rfl) (hb hby d6_20) rfl e0 (by decide) (by decide) ?_
    rintro _ T2 L2 X2 ⟨hv2, Nq2, e2⟩
    have N2 := Fr.app N0 Nq2
    rw [show f7n = (0 : Int32) from rfl] at hv2
    subst hv2
    show OGo _ _ _ _ _ _ _ (T2.setTop (mkF m 23 #[.val (.ref a0), .val (.int p1), .val (.ref a2), .val (.int (-1 : Int32)), .val (.int (0 : Int32))] [(.int (0 : Int32))]))
    refine OGo.step (F' := T2.setTop (mkF m 8 #[.val (.ref a0), .val (.int p1), .val (.ref a2), .val (.int (-1 : Int32)), .val (.int (1 : Int32))] [(.int p1), (.int (1 : Int32))])) (fun t kt => ?_) ?_
    · show Steps p.tables e below (T2.setTop (mkF m 23 #[.val (.ref a0), .val (.int p1), .val (.ref a2), .val (.int (-1 : Int32)), .val (.int (0 : Int32))] [(.int (0 : Int32))])) t
      refine XS.ifYes X2.here hx rfl (pc0 := 23) (pc' := 29) rfl (hb hby d6_23) rfl ((if0 _ _).trans (teq (by decide : (0 : Int32) = (0 : Int32))).1) (by decide) (by decide) ?_
      show Steps p.tables e below (T2.setTop (mkF m 29 #[.val (.ref a0), .val (.int p1), .val (.ref a2), .val (.int (-1 : Int32)), .val (.int (0 : Int32))] [])) t
      refine XS.iinc X2.here hx rfl (hb hby d6_29) rfl (l' := #[.val (.ref a0), .val (.int p1), .val (.ref a2), .val (.int (-1 : Int32)), .val (.int (1 : Int32))]) rfl ?_
      show Steps p.tables e below (T2.setTop (mkF m 32 #[.val (.ref a0), .val (.int p1), .val (.ref a2), .val (.int (-1 : Int32)), .val (.int (1 : Int32))] [])) t
      refine XS.goto X2.here hx rfl (pc0 := 32) (pc' := 5) rfl (hb hby d6_32) (by decide) (by decide) ?_
      show Steps p.tables e below (T2.setTop (mkF m 5 #[.val (.ref a0), .val (.int p1), .val (.ref a2), .val (.int (-1 : Int32)), .val (.int (1 : Int32))] [])) t
      refine XS.iload X2.here hx rfl (hb hby d6_5) rfl ?_
      show Steps p.tables e below (T2.setTop (mkF m 7 #[.val (.ref a0), .val (.int p1), .val (.ref a2), .val (.int (-1 : Int32)), .val (.int (1 : Int32))] [(.int (1 : Int32))])) t
      refine XS.iloadN X2.here hx rfl (hb hby d6_7) rfl ?_
      exact kt
    by_cases hc8_3 : (1 : Int32) < p1
    · refine OGo.step (F' := T2.setTop (mkF m 11 #[.val (.ref a0), .val (.int p1), .val (.ref a2), .val (.int (-1 : Int32)), .val (.int (1 : Int32))] [])) (fun t kt => ?_) ?_
      · show Steps p.tables e below (T2.setTop (mkF m 8 #[.val (.ref a0), .val (.int p1), .val (.ref a2), .val (.int (-1 : Int32)), .val (.int (1 : Int32))] [(.int p1), (.int (1 : Int32))])) t
        refine XS.icmpNo X2.here hx rfl (hb hby d6_8) rfl (tlt hc8_3).2.1 ?_
        exact kt
      refine OGo.step (F' := T2.setTop (mkF m 18 #[.val (.ref a0), .val (.int p1), .val (.ref a2), .val (.int (-1 : Int32)), .val (.int (1 : Int32))] [(.int (1 : Int32)), (.ref a0)])) (fun t kt => ?_) ?_
      · show Steps p.tables e below (T2.setTop (mkF m 11 #[.val (.ref a0), .val (.int p1), .val (.ref a2), .val (.int (-1 : Int32)), .val (.int (1 : Int32))] [])) t
        refine XS.iloadN X2.here hx rfl (hb hby d6_11) rfl ?_
        show Steps p.tables e below (T2.setTop (mkF m 12 #[.val (.ref a0), .val (.int p1), .val (.ref a2), .val (.int (-1 : Int32)), .val (.int (1 : Int32))] [(.int (-1 : Int32))])) t
        refine XS.ifNo X2.here hx rfl (hb hby d6_12) rfl ((if0 _ _).trans (tlt (by decide : (-1 : Int32) < (0 : Int32))).2.1) ?_
        show Steps p.tables e below (T2.setTop (mkF m 15 #[.val (.ref a0), .val (.int p1), .val (.ref a2), .val (.int (-1 : Int32)), .val (.int (1 : Int32))] [])) t
        refine XS.aloadN X2.here hx rfl (hb hby d6_15) rfl rfl ?_
        show Steps p.tables e below (T2.setTop (mkF m 16 #[.val (.ref a0), .val (.int p1), .val (.ref a2), .val (.int (-1 : Int32)), .val (.int (1 : Int32))] [(.ref a0)])) t
        refine XS.iload X2.here hx rfl (hb hby d6_16) rfl ?_
        exact kt
      obtain ⟨cl4, Ar4, q4, S4, N4a, H4, G4⟩ := id (V_a0)
      have hin4 : ¬ ((1 : Int32) < 0 ∨ cl4.slots.size ≤ ((1 : Int32)).toNatClampNeg) := inb_of S4 ⟨by decide, by decide⟩
      have hat4 : cl4.slots[((1 : Int32)).toNatClampNeg]? = some (.ref r1) := H4.at hin4 rfl
      refine OGo.step (F' := T2.setTop (mkF m 19 #[.val (.ref a0), .val (.int p1), .val (.ref a2), .val (.int (-1 : Int32)), .val (.int (1 : Int32))] [(.ref r1)])) (fun t kt => ?_) ?_
      · show Steps p.tables e below (T2.setTop (mkF m 18 #[.val (.ref a0), .val (.int p1), .val (.ref a2), .val (.int (-1 : Int32)), .val (.int (1 : Int32))] [(.int (1 : Int32)), (.ref a0)])) t
        refine X2.aaload hx (j := (1 : Int32)) (v := (.ref r1)) (by rw [e2]; exact Ar4.1) (State.isArrayOf_alike hZ.alike Ar4.2.1) rfl Ar4.2.2 hin4 hat4 (g := (mkF m 18 #[.val (.ref a0), .val (.int p1), .val (.ref a2), .val (.int (-1 : Int32)), .val (.int (1 : Int32))] [(.int (1 : Int32)), (.ref a0)])) rfl rfl (hb hby d6_18) _ ?_
        exact kt
      refine OGo.step (F' := T2.setTop (mkF m 20 #[.val (.ref a0), .val (.int p1), .val (.ref a2), .val (.int (-1 : Int32)), .val (.int (1 : Int32))] [(.ref a2), (.ref r1)])) (fun t kt => ?_) ?_
      · show Steps p.tables e below (T2.setTop (mkF m 19 #[.val (.ref a0), .val (.int p1), .val (.ref a2), .val (.int (-1 : Int32)), .val (.int (1 : Int32))] [(.ref r1)])) t
        refine XS.aloadN X2.here hx rfl (hb hby d6_19) rfl rfl ?_
        exact kt
      refine OGo.callV X2 hx hZ (y := (⟨"java/lang/String", "equals", "(Ljava/lang/Object;)Z"⟩ : MethodName)) (z := (⟨"java/lang/String", "equals", "(Ljava/lang/Object;)Z"⟩ : MethodName)) hown (own_wd hw 32 rfl) (own_wd hw 33 rfl) (notFace_of_selects (args := #[]) (mvT hZ (own_wd hw 35 rfl))) (own_wd hw 35 rfl) (own_wd hw 34 rfl) (own_wd hw 4 rfl) (own_wd hw 36 rfl) (by decide) (rm7n l Z az hw [] r1 a2 h0 n0 Z0 E_a2 (ne_exa E_r1 E_a2 (by decide))) (W := 0) (by decide) (by decide) E_r1 (g := (mkF m 20 #[.val (.ref a0), .val (.int p1), .val (.ref a2), .val (.int (-1 : Int32)), .val (.int (1 : Int32))] [(.ref a2), (.ref r1)])) rfl (by rw [hml]; rfl) (argsL := [(.ref a2)]) (rest := []) (lenOf pd_6n_0 rfl) rfl (by show 2 * 0 + _ ≤ _; exact Nat.le_of_eq rfl) (hb hby d6_20) rfl e2 (by decide) (by decide) ?_
      rintro _ T5 L5 X5 ⟨hv5, Nq5, e5⟩
      have N5 := Fr.app N2 Nq5
      rw [show f7n = (0 : Int32) from rfl] at hv5
      subst hv5
      show OGo _ _ _ _ _ _ _ (T5.setTop (mkF m 23 #[.val (.ref a0), .val (.int p1), .val (.ref a2), .val (.int (-1 : Int32)), .val (.int (1 : Int32))] [(.int (0 : Int32))]))
      refine OGo.step (F' := T5.setTop (mkF m 8 #[.val (.ref a0), .val (.int p1), .val (.ref a2), .val (.int (-1 : Int32)), .val (.int (2 : Int32))] [(.int p1), (.int (2 : Int32))])) (fun t kt => ?_) ?_
      · show Steps p.tables e below (T5.setTop (mkF m 23 #[.val (.ref a0), .val (.int p1), .val (.ref a2), .val (.int (-1 : Int32)), .val (.int (1 : Int32))] [(.int (0 : Int32))])) t
        refine XS.ifYes X5.here hx rfl (pc0 := 23) (pc' := 29) rfl (hb hby d6_23) rfl ((if0 _ _).trans (teq (by decide : (0 : Int32) = (0 : Int32))).1) (by decide) (by decide) ?_
        show Steps p.tables e below (T5.setTop (mkF m 29 #[.val (.ref a0), .val (.int p1), .val (.ref a2), .val (.int (-1 : Int32)), .val (.int (1 : Int32))] [])) t
        refine XS.iinc X5.here hx rfl (hb hby d6_29) rfl (l' := #[.val (.ref a0), .val (.int p1), .val (.ref a2), .val (.int (-1 : Int32)), .val (.int (2 : Int32))]) rfl ?_
        show Steps p.tables e below (T5.setTop (mkF m 32 #[.val (.ref a0), .val (.int p1), .val (.ref a2), .val (.int (-1 : Int32)), .val (.int (2 : Int32))] [])) t
        refine XS.goto X5.here hx rfl (pc0 := 32) (pc' := 5) rfl (hb hby d6_32) (by decide) (by decide) ?_
        show Steps p.tables e below (T5.setTop (mkF m 5 #[.val (.ref a0), .val (.int p1), .val (.ref a2), .val (.int (-1 : Int32)), .val (.int (2 : Int32))] [])) t
        refine XS.iload X5.here hx rfl (hb hby d6_5) rfl ?_
        show Steps p.tables e below (T5.setTop (mkF m 7 #[.val (.ref a0), .val (.int p1), .val (.ref a2), .val (.int (-1 : Int32)), .val (.int (2 : Int32))] [(.int (2 : Int32))])) t
        refine XS.iloadN X5.here hx rfl (hb hby d6_7) rfl ?_
        exact kt
      by_cases hc8_6 : (2 : Int32) < p1
      · refine OGo.step (F' := T5.setTop (mkF m 11 #[.val (.ref a0), .val (.int p1), .val (.ref a2), .val (.int (-1 : Int32)), .val (.int (2 : Int32))] [])) (fun t kt => ?_) ?_
        · show Steps p.tables e below (T5.setTop (mkF m 8 #[.val (.ref a0), .val (.int p1), .val (.ref a2), .val (.int (-1 : Int32)), .val (.int (2 : Int32))] [(.int p1), (.int (2 : Int32))])) t
          refine XS.icmpNo X5.here hx rfl (hb hby d6_8) rfl (tlt hc8_6).2.1 ?_
          exact kt
        refine OGo.step (F' := T5.setTop (mkF m 18 #[.val (.ref a0), .val (.int p1), .val (.ref a2), .val (.int (-1 : Int32)), .val (.int (2 : Int32))] [(.int (2 : Int32)), (.ref a0)])) (fun t kt => ?_) ?_
        · show Steps p.tables e below (T5.setTop (mkF m 11 #[.val (.ref a0), .val (.int p1), .val (.ref a2), .val (.int (-1 : Int32)), .val (.int (2 : Int32))] [])) t
          refine XS.iloadN X5.here hx rfl (hb hby d6_11) rfl ?_
          show Steps p.tables e below (T5.setTop (mkF m 12 #[.val (.ref a0), .val (.int p1), .val (.ref a2), .val (.int (-1 : Int32)), .val (.int (2 : Int32))] [(.int (-1 : Int32))])) t
          refine XS.ifNo X5.here hx rfl (hb hby d6_12) rfl ((if0 _ _).trans (tlt (by decide : (-1 : Int32) < (0 : Int32))).2.1) ?_
          show Steps p.tables e below (T5.setTop (mkF m 15 #[.val (.ref a0), .val (.int p1), .val (.ref a2), .val (.int (-1 : Int32)), .val (.int (2 : Int32))] [])) t
          refine XS.aloadN X5.here hx rfl (hb hby d6_15) rfl rfl ?_
          show Steps p.tables e below (T5.setTop (mkF m 16 #[.val (.ref a0), .val (.int p1), .val (.ref a2), .val (.int (-1 : Int32)), .val (.int (2 : Int32))] [(.ref a0)])) t
          refine XS.iload X5.here hx rfl (hb hby d6_16) rfl ?_
          exact kt
        obtain ⟨cl7, Ar7, q7, S7, N7a, H7, G7⟩ := id (V_a0)
        have hin7 : ¬ ((2 : Int32) < 0 ∨ cl7.slots.size ≤ ((2 : Int32)).toNatClampNeg) := inb_of S7 ⟨by decide, by decide⟩
        have hat7 : cl7.slots[((2 : Int32)).toNatClampNeg]? = some (.ref r2) := H7.at hin7 rfl
        refine OGo.step (F' := T5.setTop (mkF m 19 #[.val (.ref a0), .val (.int p1), .val (.ref a2), .val (.int (-1 : Int32)), .val (.int (2 : Int32))] [(.ref r2)])) (fun t kt => ?_) ?_
        · show Steps p.tables e below (T5.setTop (mkF m 18 #[.val (.ref a0), .val (.int p1), .val (.ref a2), .val (.int (-1 : Int32)), .val (.int (2 : Int32))] [(.int (2 : Int32)), (.ref a0)])) t
          refine X5.aaload hx (j := (2 : Int32)) (v := (.ref r2)) (by rw [e5]; exact Ar7.1) (State.isArrayOf_alike hZ.alike Ar7.2.1) rfl Ar7.2.2 hin7 hat7 (g := (mkF m 18 #[.val (.ref a0), .val (.int p1), .val (.ref a2), .val (.int (-1 : Int32)), .val (.int (2 : Int32))] [(.int (2 : Int32)), (.ref a0)])) rfl rfl (hb hby d6_18) _ ?_
          exact kt
        refine OGo.step (F' := T5.setTop (mkF m 20 #[.val (.ref a0), .val (.int p1), .val (.ref a2), .val (.int (-1 : Int32)), .val (.int (2 : Int32))] [(.ref a2), (.ref r2)])) (fun t kt => ?_) ?_
        · show Steps p.tables e below (T5.setTop (mkF m 19 #[.val (.ref a0), .val (.int p1), .val (.ref a2), .val (.int (-1 : Int32)), .val (.int (2 : Int32))] [(.ref r2)])) t
          refine XS.aloadN X5.here hx rfl (hb hby d6_19) rfl rfl ?_
          exact kt
        refine OGo.callV X5 hx hZ (y := (⟨"java/lang/String", "equals", "(Ljava/lang/Object;)Z"⟩ : MethodName)) (z := (⟨"java/lang/String", "equals", "(Ljava/lang/Object;)Z"⟩ : MethodName)) hown (own_wd hw 32 rfl) (own_wd hw 33 rfl) (notFace_of_selects (args := #[]) (mvT hZ (own_wd hw 35 rfl))) (own_wd hw 35 rfl) (own_wd hw 34 rfl) (own_wd hw 4 rfl) (own_wd hw 36 rfl) (by decide) (rm7n l Z az hw [] r2 a2 h0 n0 Z0 E_a2 (ne_exa E_r2 E_a2 (by decide))) (W := 0) (by decide) (by decide) E_r2 (g := (mkF m 20 #[.val (.ref a0), .val (.int p1), .val (.ref a2), .val (.int (-1 : Int32)), .val (.int (2 : Int32))] [(.ref a2), (.ref r2)])) rfl (by rw [hml]; rfl) (argsL := [(.ref a2)]) (rest := []) (lenOf pd_6n_0 rfl) rfl (by show 2 * 0 + _ ≤ _; exact Nat.le_of_eq rfl) (hb hby d6_20) rfl e5 (by decide) (by decide) ?_
        rintro _ T8 L8 X8 ⟨hv8, Nq8, e8⟩
        have N8 := Fr.app N5 Nq8
        rw [show f7n = (0 : Int32) from rfl] at hv8
        subst hv8
        show OGo _ _ _ _ _ _ _ (T8.setTop (mkF m 23 #[.val (.ref a0), .val (.int p1), .val (.ref a2), .val (.int (-1 : Int32)), .val (.int (2 : Int32))] [(.int (0 : Int32))]))
        refine OGo.step (F' := T8.setTop (mkF m 8 #[.val (.ref a0), .val (.int p1), .val (.ref a2), .val (.int (-1 : Int32)), .val (.int (3 : Int32))] [(.int p1), (.int (3 : Int32))])) (fun t kt => ?_) ?_
        · show Steps p.tables e below (T8.setTop (mkF m 23 #[.val (.ref a0), .val (.int p1), .val (.ref a2), .val (.int (-1 : Int32)), .val (.int (2 : Int32))] [(.int (0 : Int32))])) t
          refine XS.ifYes X8.here hx rfl (pc0 := 23) (pc' := 29) rfl (hb hby d6_23) rfl ((if0 _ _).trans (teq (by decide : (0 : Int32) = (0 : Int32))).1) (by decide) (by decide) ?_
          show Steps p.tables e below (T8.setTop (mkF m 29 #[.val (.ref a0), .val (.int p1), .val (.ref a2), .val (.int (-1 : Int32)), .val (.int (2 : Int32))] [])) t
          refine XS.iinc X8.here hx rfl (hb hby d6_29) rfl (l' := #[.val (.ref a0), .val (.int p1), .val (.ref a2), .val (.int (-1 : Int32)), .val (.int (3 : Int32))]) rfl ?_
          show Steps p.tables e below (T8.setTop (mkF m 32 #[.val (.ref a0), .val (.int p1), .val (.ref a2), .val (.int (-1 : Int32)), .val (.int (3 : Int32))] [])) t
          refine XS.goto X8.here hx rfl (pc0 := 32) (pc' := 5) rfl (hb hby d6_32) (by decide) (by decide) ?_
          show Steps p.tables e below (T8.setTop (mkF m 5 #[.val (.ref a0), .val (.int p1), .val (.ref a2), .val (.int (-1 : Int32)), .val (.int (3 : Int32))] [])) t
          refine XS.iload X8.here hx rfl (hb hby d6_5) rfl ?_
          show Steps p.tables e below (T8.setTop (mkF m 7 #[.val (.ref a0), .val (.int p1), .val (.ref a2), .val (.int (-1 : Int32)), .val (.int (3 : Int32))] [(.int (3 : Int32))])) t
          refine XS.iloadN X8.here hx rfl (hb hby d6_7) rfl ?_
          exact kt
        by_cases hc8_9 : (3 : Int32) < p1
        · refine OGo.step (F' := T8.setTop (mkF m 11 #[.val (.ref a0), .val (.int p1), .val (.ref a2), .val (.int (-1 : Int32)), .val (.int (3 : Int32))] [])) (fun t kt => ?_) ?_
          · show Steps p.tables e below (T8.setTop (mkF m 8 #[.val (.ref a0), .val (.int p1), .val (.ref a2), .val (.int (-1 : Int32)), .val (.int (3 : Int32))] [(.int p1), (.int (3 : Int32))])) t
            refine XS.icmpNo X8.here hx rfl (hb hby d6_8) rfl (tlt hc8_9).2.1 ?_
            exact kt
          refine OGo.step (F' := T8.setTop (mkF m 18 #[.val (.ref a0), .val (.int p1), .val (.ref a2), .val (.int (-1 : Int32)), .val (.int (3 : Int32))] [(.int (3 : Int32)), (.ref a0)])) (fun t kt => ?_) ?_
          · show Steps p.tables e below (T8.setTop (mkF m 11 #[.val (.ref a0), .val (.int p1), .val (.ref a2), .val (.int (-1 : Int32)), .val (.int (3 : Int32))] [])) t
            refine XS.iloadN X8.here hx rfl (hb hby d6_11) rfl ?_
            show Steps p.tables e below (T8.setTop (mkF m 12 #[.val (.ref a0), .val (.int p1), .val (.ref a2), .val (.int (-1 : Int32)), .val (.int (3 : Int32))] [(.int (-1 : Int32))])) t
            refine XS.ifNo X8.here hx rfl (hb hby d6_12) rfl ((if0 _ _).trans (tlt (by decide : (-1 : Int32) < (0 : Int32))).2.1) ?_
            show Steps p.tables e below (T8.setTop (mkF m 15 #[.val (.ref a0), .val (.int p1), .val (.ref a2), .val (.int (-1 : Int32)), .val (.int (3 : Int32))] [])) t
            refine XS.aloadN X8.here hx rfl (hb hby d6_15) rfl rfl ?_
            show Steps p.tables e below (T8.setTop (mkF m 16 #[.val (.ref a0), .val (.int p1), .val (.ref a2), .val (.int (-1 : Int32)), .val (.int (3 : Int32))] [(.ref a0)])) t
            refine XS.iload X8.here hx rfl (hb hby d6_16) rfl ?_
            exact kt
          obtain ⟨cl10, Ar10, q10, S10, N10a, H10, G10⟩ := id (V_a0)
          have hin10 : ¬ ((3 : Int32) < 0 ∨ cl10.slots.size ≤ ((3 : Int32)).toNatClampNeg) := inb_of S10 ⟨by decide, by decide⟩
          have hat10 : cl10.slots[((3 : Int32)).toNatClampNeg]? = some (.ref r3) := H10.at hin10 rfl
          refine OGo.step (F' := T8.setTop (mkF m 19 #[.val (.ref a0), .val (.int p1), .val (.ref a2), .val (.int (-1 : Int32)), .val (.int (3 : Int32))] [(.ref r3)])) (fun t kt => ?_) ?_
          · show Steps p.tables e below (T8.setTop (mkF m 18 #[.val (.ref a0), .val (.int p1), .val (.ref a2), .val (.int (-1 : Int32)), .val (.int (3 : Int32))] [(.int (3 : Int32)), (.ref a0)])) t
            refine X8.aaload hx (j := (3 : Int32)) (v := (.ref r3)) (by rw [e8]; exact Ar10.1) (State.isArrayOf_alike hZ.alike Ar10.2.1) rfl Ar10.2.2 hin10 hat10 (g := (mkF m 18 #[.val (.ref a0), .val (.int p1), .val (.ref a2), .val (.int (-1 : Int32)), .val (.int (3 : Int32))] [(.int (3 : Int32)), (.ref a0)])) rfl rfl (hb hby d6_18) _ ?_
            exact kt
          refine OGo.step (F' := T8.setTop (mkF m 20 #[.val (.ref a0), .val (.int p1), .val (.ref a2), .val (.int (-1 : Int32)), .val (.int (3 : Int32))] [(.ref a2), (.ref r3)])) (fun t kt => ?_) ?_
          · show Steps p.tables e below (T8.setTop (mkF m 19 #[.val (.ref a0), .val (.int p1), .val (.ref a2), .val (.int (-1 : Int32)), .val (.int (3 : Int32))] [(.ref r3)])) t
            refine XS.aloadN X8.here hx rfl (hb hby d6_19) rfl rfl ?_
            exact kt
          refine OGo.callV X8 hx hZ (y := (⟨"java/lang/String", "equals", "(Ljava/lang/Object;)Z"⟩ : MethodName)) (z := (⟨"java/lang/String", "equals", "(Ljava/lang/Object;)Z"⟩ : MethodName)) hown (own_wd hw 32 rfl) (own_wd hw 33 rfl) (notFace_of_selects (args := #[]) (mvT hZ (own_wd hw 35 rfl))) (own_wd hw 35 rfl) (own_wd hw 34 rfl) (own_wd hw 4 rfl) (own_wd hw 36 rfl) (by decide) (rm7n l Z az hw [] r3 a2 h0 n0 Z0 E_a2 (ne_exa E_r3 E_a2 (by decide))) (W := 0) (by decide) (by decide) E_r3 (g := (mkF m 20 #[.val (.ref a0), .val (.int p1), .val (.ref a2), .val (.int (-1 : Int32)), .val (.int (3 : Int32))] [(.ref a2), (.ref r3)])) rfl (by rw [hml]; rfl) (argsL := [(.ref a2)]) (rest := []) (lenOf pd_6n_0 rfl) rfl (by show 2 * 0 + _ ≤ _; exact Nat.le_of_eq rfl) (hb hby d6_20) rfl e8 (by decide) (by decide) ?_
          rintro _ T11 L11 X11 ⟨hv11, Nq11, e11⟩
          have N11 := Fr.app N8 Nq11
          rw [show f7n = (0 : Int32) from rfl] at hv11
          subst hv11
          show OGo _ _ _ _ _ _ _ (T11.setTop (mkF m 23 #[.val (.ref a0), .val (.int p1), .val (.ref a2), .val (.int (-1 : Int32)), .val (.int (3 : Int32))] [(.int (0 : Int32))]))
          refine OGo.step (F' := T11.setTop (mkF m 36 #[.val (.ref a0), .val (.int p1), .val (.ref a2), .val (.int (-1 : Int32)), .val (.int (4 : Int32))] [(.int (-1 : Int32))])) (fun t kt => ?_) ?_
          · show Steps p.tables e below (T11.setTop (mkF m 23 #[.val (.ref a0), .val (.int p1), .val (.ref a2), .val (.int (-1 : Int32)), .val (.int (3 : Int32))] [(.int (0 : Int32))])) t
            refine XS.ifYes X11.here hx rfl (pc0 := 23) (pc' := 29) rfl (hb hby d6_23) rfl ((if0 _ _).trans (teq (by decide : (0 : Int32) = (0 : Int32))).1) (by decide) (by decide) ?_
            show Steps p.tables e below (T11.setTop (mkF m 29 #[.val (.ref a0), .val (.int p1), .val (.ref a2), .val (.int (-1 : Int32)), .val (.int (3 : Int32))] [])) t
            refine XS.iinc X11.here hx rfl (hb hby d6_29) rfl (l' := #[.val (.ref a0), .val (.int p1), .val (.ref a2), .val (.int (-1 : Int32)), .val (.int (4 : Int32))]) rfl ?_
            show Steps p.tables e below (T11.setTop (mkF m 32 #[.val (.ref a0), .val (.int p1), .val (.ref a2), .val (.int (-1 : Int32)), .val (.int (4 : Int32))] [])) t
            refine XS.goto X11.here hx rfl (pc0 := 32) (pc' := 5) rfl (hb hby d6_32) (by decide) (by decide) ?_
            show Steps p.tables e below (T11.setTop (mkF m 5 #[.val (.ref a0), .val (.int p1), .val (.ref a2), .val (.int (-1 : Int32)), .val (.int (4 : Int32))] [])) t
            refine XS.iload X11.here hx rfl (hb hby d6_5) rfl ?_
            show Steps p.tables e below (T11.setTop (mkF m 7 #[.val (.ref a0), .val (.int p1), .val (.ref a2), .val (.int (-1 : Int32)), .val (.int (4 : Int32))] [(.int (4 : Int32))])) t
            refine XS.iloadN X11.here hx rfl (hb hby d6_7) rfl ?_
            show Steps p.tables e below (T11.setTop (mkF m 8 #[.val (.ref a0), .val (.int p1), .val (.ref a2), .val (.int (-1 : Int32)), .val (.int (4 : Int32))] [(.int p1), (.int (4 : Int32))])) t
            refine XS.icmpYes X11.here hx rfl (pc0 := 8) (pc' := 35) rfl (hb hby d6_8) rfl (flt (own_n4 hp)).2.1 (by decide) (by decide) ?_
            show Steps p.tables e below (T11.setTop (mkF m 35 #[.val (.ref a0), .val (.int p1), .val (.ref a2), .val (.int (-1 : Int32)), .val (.int (4 : Int32))] [])) t
            refine XS.iloadN X11.here hx rfl (hb hby d6_35) rfl ?_
            exact kt
          refine OGo.retI X11 hx hlk hret (hb hby d6_36) ?_ (by decide) (by decide)
          exact ⟨(by rw [f6n, if_pos hc8, if_pos hc8_3, if_pos hc8_6, if_pos hc8_9]), N11, e11⟩
        · refine OGo.step (F' := T8.setTop (mkF m 35 #[.val (.ref a0), .val (.int p1), .val (.ref a2), .val (.int (-1 : Int32)), .val (.int (3 : Int32))] [])) (fun t kt => ?_) ?_
          · show Steps p.tables e below (T8.setTop (mkF m 8 #[.val (.ref a0), .val (.int p1), .val (.ref a2), .val (.int (-1 : Int32)), .val (.int (3 : Int32))] [(.int p1), (.int (3 : Int32))])) t
            refine XS.icmpYes X8.here hx rfl (pc0 := 8) (pc' := 35) rfl (hb hby d6_8) rfl (flt hc8_9).2.1 (by decide) (by decide) ?_
            exact kt
          refine OGo.step (F' := T8.setTop (mkF m 36 #[.val (.ref a0), .val (.int p1), .val (.ref a2), .val (.int (-1 : Int32)), .val (.int (3 : Int32))] [(.int (-1 : Int32))])) (fun t kt => ?_) ?_
          · show Steps p.tables e below (T8.setTop (mkF m 35 #[.val (.ref a0), .val (.int p1), .val (.ref a2), .val (.int (-1 : Int32)), .val (.int (3 : Int32))] [])) t
            refine XS.iloadN X8.here hx rfl (hb hby d6_35) rfl ?_
            exact kt
          refine OGo.retI X8 hx hlk hret (hb hby d6_36) ?_ (by decide) (by decide)
          exact ⟨(by rw [f6n, if_pos hc8, if_pos hc8_3, if_pos hc8_6, if_neg hc8_9]), N8, e8⟩
      · refine OGo.step (F' := T5.setTop (mkF m 35 #[.val (.ref a0), .val (.int p1), .val (.ref a2), .val (.int (-1 : Int32)), .val (.int (2 : Int32))] [])) (fun t kt => ?_) ?_
        · show Steps p.tables e below (T5.setTop (mkF m 8 #[.val (.ref a0), .val (.int p1), .val (.ref a2), .val (.int (-1 : Int32)), .val (.int (2 : Int32))] [(.int p1), (.int (2 : Int32))])) t
          refine XS.icmpYes X5.here hx rfl (pc0 := 8) (pc' := 35) rfl (hb hby d6_8) rfl (flt hc8_6).2.1 (by decide) (by decide) ?_
          exact kt
        refine OGo.step (F' := T5.setTop (mkF m 36 #[.val (.ref a0), .val (.int p1), .val (.ref a2), .val (.int (-1 : Int32)), .val (.int (2 : Int32))] [(.int (-1 : Int32))])) (fun t kt => ?_) ?_
        · show Steps p.tables e below (T5.setTop (mkF m 35 #[.val (.ref a0), .val (.int p1), .val (.ref a2), .val (.int (-1 : Int32)), .val (.int (2 : Int32))] [])) t
          refine XS.iloadN X5.here hx rfl (hb hby d6_35) rfl ?_
          exact kt
        refine OGo.retI X5 hx hlk hret (hb hby d6_36) ?_ (by decide) (by decide)
        exact ⟨(by rw [f6n, if_pos hc8, if_pos hc8_3, if_neg hc8_6]), N5, e5⟩
    · refine OGo.step (F' := T2.setTop (mkF m 35 #[.val (.ref a0), .val (.int p1), .val (.ref a2), .val (.int (-1 : Int32)), .val (.int (1 : Int32))] [])) (fun t kt => ?_) ?_
      · show Steps p.tables e below (T2.setTop (mkF m 8 #[.val (.ref a0), .val (.int p1), .val (.ref a2), .val (.int (-1 : Int32)), .val (.int (1 : Int32))] [(.int p1), (.int (1 : Int32))])) t
        refine XS.icmpYes X2.here hx rfl (pc0 := 8) (pc' := 35) rfl (hb hby d6_8) rfl (flt hc8_3).2.1 (by decide) (by decide) ?_
        exact kt
      refine OGo.step (F' := T2.setTop (mkF m 36 #[.val (.ref a0), .val (.int p1), .val (.ref a2), .val (.int (-1 : Int32)), .val (.int (1 : Int32))] [(.int (-1 : Int32))])) (fun t kt => ?_) ?_
      · show Steps p.tables e below (T2.setTop (mkF m 35 #[.val (.ref a0), .val (.int p1), .val (.ref a2), .val (.int (-1 : Int32)), .val (.int (1 : Int32))] [])) t
        refine XS.iloadN X2.here hx rfl (hb hby d6_35) rfl ?_
        exact kt
      refine OGo.retI X2 hx hlk hret (hb hby d6_36) ?_ (by decide) (by decide)
      exact ⟨(by rw [f6n, if_pos hc8, if_neg hc8_3]), N2, e2⟩
  · refine OGo.step (F' := s₁.setTop (mkF m 35 #[.val (.ref a0), .val (.int p1), .val (.ref a2), .val (.int (-1 : Int32)), .val (.int (0 : Int32))] [])) (fun t kt => ?_) ?_
    · show Steps p.tables e below (s₁.setTop (mkF m 8 #[.val (.ref a0), .val (.int p1), .val (.ref a2), .val (.int (-1 : Int32)), .val (.int (0 : Int32))] [(.int p1), (.int (0 : Int32))])) t
      refine XS.icmpYes X0.here hx rfl (pc0 := 8) (pc' := 35) rfl (hb hby d6_8) rfl (flt hc8).2.1 (by decide) (by decide) ?_
      exact kt
    refine OGo.step (F' := s₁.setTop (mkF m 36 #[.val (.ref a0), .val (.int p1), .val (.ref a2), .val (.int (-1 : Int32)), .val (.int (0 : Int32))] [(.int (-1 : Int32))])) (fun t kt => ?_) ?_
    · show Steps p.tables e below (s₁.setTop (mkF m 35 #[.val (.ref a0), .val (.int p1), .val (.ref a2), .val (.int (-1 : Int32)), .val (.int (0 : Int32))] [])) t
      refine XS.iloadN X0.here hx rfl (hb hby d6_35) rfl ?_
      exact kt
    refine OGo.retI X0 hx hlk hret (hb hby d6_36) ?_ (by decide) (by decide)
    exact ⟨(by rw [f6n, if_neg hc8]), N0, e0⟩
/-- the Integers that are kept -/
def OCache (Z : State) (h : Heap) (a : Addr) : Prop := ∃ cl : Cell, Arr Z h a cl (.object "java/lang/Integer") ∧ cl.slots.size = 256 ∧ ∀ j, j < 256 → ∃ r, cl.slots[j]? = some (.ref r) ∧ Exa Z h r "java/lang/Integer"
theorem OCache.lt {Z : State} {h : Heap} {a : Addr} (F : OCache Z h a) : a < h.size := by obtain ⟨cl, A, -⟩ := F; exact A.lt
theorem OCache.ext {Z : State} {h h' : Heap} {a : Addr} (F : OCache Z h a) (E : Ext h h') : OCache Z h' a := by
  obtain ⟨cl, A, z, q⟩ := F
  exact ⟨cl, A.ext E, z, fun j hj => by obtain ⟨r, h1, h2⟩ := q j hj; exact ⟨r, h1, h2.ext E⟩⟩
theorem OCache.other {Z : State} {h h' : Heap} {a b : Addr} {sl : Nat} {v : Value} (F : OCache Z h a) (W : Wr h h' b sl v) (n : a ≠ b) : OCache Z h' a := by
  obtain ⟨cl, A, z, q⟩ := F
  exact ⟨cl, A.other W n, z, fun j hj => by obtain ⟨r, h1, h2⟩ := q j hj; exact ⟨r, h1, h2.wr W⟩⟩
theorem OCache.keep {Z : State} {h h' : Heap} {a : Addr} {ws : List Addr} (F : OCache Z h a) (K : Keep h h' ws) (n : a ∉ ws) : OCache Z h' a := by
  obtain ⟨cl, A, z, q⟩ := F
  exact ⟨cl, ⟨K.2.1 a cl A.1 n, A.2⟩, z, fun j hj => by obtain ⟨r, h1, h2⟩ := q j hj; exact ⟨r, h1, h2.keep K⟩⟩
theorem own_ci {x : Int32} (h1 : ¬ (x < (-128 : Int32))) (h2 : ¬ ((127 : Int32) < x)) : ¬ ((x + (128 : Int32)) < 0) ∧ (x + (128 : Int32)).toNatClampNeg < 256 := by
  have c1 := c_iadd x (128 : Int32)
  have l2 := (x + (128 : Int32)).toInt_lt; have l3 := (x + (128 : Int32)).le_toInt
  simp only [Int32.lt_iff_toInt_lt, Int32.toNatClampNeg, Int32.reduceToInt] at *; omega
/-! body 11: java/lang/Number.<init>:()V -/
theorem d11_0 : decode jdk_18_method_1_code 0 = .ok (.aload_n 0, 1) := by decide +kernel
theorem d11_1 : decode jdk_18_method_1_code 1 = .ok (.invokespecial 1, 3) := by decide +kernel
theorem d11_4 : decode jdk_18_method_1_code 4 = .ok (.return_, 1) := by decide +kernel
theorem pn_11 : plainName "java/lang/Number" = true := by first | (simp [plainName, overriddenIn]; done) | decide +kernel
theorem ef_11 (m : MethodId) (x0 : Addr) : entryFrame m #[(.ref x0)] 1 = mkF m 0 #[.val (.ref x0)] [] := by first | (simp [entryFrame, mkF, argsToLocals, Value.category]; done) | rfl
set_option maxRecDepth 65536 in
set_option maxHeartbeats 40000000 in
theorem rm11 (l : Launch) (Z : State) (az : Array Value) (hw : ∀ d ∈ tables_1, d.before az Z = true) (ws : List Jvm.Cond) (a0 : Addr) (h0 : Heap) (n0 : Nat) (Z0 : n0 ≤ h0.size) :
    OCtr l Z (⟨"java/lang/Number", "<init>", "()V"⟩ : MethodName) jdk_18_method_1_code 1 none ws ({ frames := 1, cells := 0, slots := 0, locals := 12 } : Room) #[(.ref a0)] h0 (OPure none h0 n0) := by
  refine OCtr.of (plainFor_of_name pn_11) ?_
  intro p e s m below meth c s₁ X0 hx hlk hZ hown0 hnm hby hml0 hret e0
  have hown : s.vm.findClass "java/lang/Number" = some m.cls := hown0
  have hml : c.maxLocals = 1 := hml0
  have N0 := Fr.nil n0
  refine OGo.step (fun t k => castTop (ef_11 m a0) k) ?_
  refine OGo.step (F' := s₁.setTop (mkF m 1 #[.val (.ref a0)] [(.ref a0)])) (fun t kt => ?_) ?_
  · show Steps p.tables e below (s₁.setTop (mkF m 0 #[.val (.ref a0)] [])) t
    refine XS.aloadN X0.here hx rfl (hb hby d11_0) rfl rfl ?_
    exact kt
  obtain ⟨T1, X1, e1, st1⟩ := initO X0 hx hZ hown (own_wd hw 56 rfl) (own_wd hw 22 rfl) (own_wd hw 23 rfl) e0 (g := (mkF m 1 #[.val (.ref a0)] [(.ref a0)])) rfl (by rw [hml]; rfl) rfl (hb hby d11_1) (by decide) (W := 0) (by show 2 * 0 + _ ≤ _; exact Nat.le_of_eq rfl) (by decide)
  refine OGo.step st1 ?_
  show OGo _ _ _ _ _ _ _ (T1.setTop (mkF m 4 #[.val (.ref a0)] []))
  refine OGo.retV X1 hx hlk hret (hb hby d11_4) ?_ (by decide) (by decide)
  exact ⟨rfl, N0, e1⟩
/-! body 10: java/lang/Integer.<init>:(I)V -/
theorem d10_0 : decode jdk_33_method_23_code 0 = .ok (.aload_n 0, 1) := by decide +kernel
theorem d10_1 : decode jdk_33_method_23_code 1 = .ok (.invokespecial 202, 3) := by decide +kernel
theorem d10_4 : decode jdk_33_method_23_code 4 = .ok (.aload_n 0, 1) := by decide +kernel
theorem d10_5 : decode jdk_33_method_23_code 5 = .ok (.iload_n 1, 1) := by decide +kernel
theorem d10_6 : decode jdk_33_method_23_code 6 = .ok (.putfield 205, 3) := by decide +kernel
theorem d10_9 : decode jdk_33_method_23_code 9 = .ok (.return_, 1) := by decide +kernel
theorem pn_10 : plainName "java/lang/Integer" = true := by first | (simp [plainName, overriddenIn]; done) | decide +kernel
theorem pd_10_0 : parseMethodDescriptor "()V" = some ⟨[], none⟩ := by decide +kernel
theorem ef_10 (m : MethodId) (x0 : Addr) (x1 : Int32) : entryFrame m #[(.ref x0), (.int x1)] 2 = mkF m 0 #[.val (.ref x0), .val (.int x1)] [] := by first | (simp [entryFrame, mkF, argsToLocals, Value.category]; done) | rfl
def Q10 (Z : State) (a0 : Addr) (p1 : Int32) (u_value_a0 : Value) (h0 : Heap) (n0 : Nat) (v : Option Value) (h : Heap) (L : List Loc) : Prop := v = none ∧ Fr n0 L ∧ Keep h0 h [a0] ∧ Exa Z h a0 "java/lang/Integer"
set_option maxRecDepth 65536 in
set_option maxHeartbeats 40000000 in
theorem rm10 (l : Launch) (Z : State) (az : Array Value) (hw : ∀ d ∈ tables_1, d.before az Z = true) (ws : List Jvm.Cond) (a0 : Addr) (p1 : Int32) (u_value_a0 : Value) (h0 : Heap) (n0 : Nat) (Z0 : n0 ≤ h0.size) (E_a0 : Exa Z h0 a0 "java/lang/Integer") (F_value_a0 : Fld Z h0 a0 "java/lang/Integer" "value" "I" u_value_a0) (gn_a0 : n0 ≤ a0) :
    OCtr l Z (⟨"java/lang/Integer", "<init>", "(I)V"⟩ : MethodName) jdk_33_method_23_code 2 none ws ({ frames := 2, cells := 0, slots := 0, locals := 24 } : Room) #[(.ref a0), (.int p1)] h0 (Q10 Z a0 p1 u_value_a0 h0 n0) := by
  refine OCtr.of (plainFor_of_name pn_10) ?_
  intro p e s m below meth c s₁ X0 hx hlk hZ hown0 hnm hby hml0 hret e0
  have hown : s.vm.findClass "java/lang/Integer" = some m.cls := hown0
  have hml : c.maxLocals = 2 := hml0
  have N0 := Fr.nil n0
  refine OGo.step (fun t k => castTop (ef_10 m a0 p1) k) ?_
  refine OGo.step (F' := s₁.setTop (mkF m 1 #[.val (.ref a0), .val (.int p1)] [(.ref a0)])) (fun t kt => ?_) ?_
  · show Steps p.tables e below (s₁.setTop (mkF m 0 #[.val (.ref a0), .val (.int p1)] [])) t
    refine XS.aloadN X0.here hx rfl (hb hby d10_0) rfl rfl ?_
    exact kt
  refine OGo.callC X0 hx hZ (y := (⟨"java/lang/Number", "<init>", "()V"⟩ : MethodName)) rfl hown (own_wd hw 50 rfl) (own_wd hw 51 rfl) (own_wd hw 54 rfl) (own_wd hw 55 rfl) (by decide) (rm11 l Z az hw [] a0 h0 n0 Z0) (W := 0) (by decide) (by decide) (b := a0) (g := (mkF m 1 #[.val (.ref a0), .val (.int p1)] [(.ref a0)])) rfl (by rw [hml]; rfl) (argsL := []) (rest := []) (lenOf pd_10_0 rfl) rfl (by show 2 * 0 + _ ≤ _; exact Nat.le_of_eq rfl) (hb hby d10_1) rfl e0 (by decide) (by decide) ?_
  rintro _ T1 L1 X1 ⟨rfl, Nq1, e1⟩
  have N1 := Fr.app N0 Nq1
  show OGo _ _ _ _ _ _ _ (T1.setTop (mkF m 4 #[.val (.ref a0), .val (.int p1)] []))
  refine OGo.step (F' := T1.setTop (mkF m 6 #[.val (.ref a0), .val (.int p1)] [(.int p1), (.ref a0)])) (fun t kt => ?_) ?_
  · show Steps p.tables e below (T1.setTop (mkF m 4 #[.val (.ref a0), .val (.int p1)] [])) t
    refine XS.aloadN X1.here hx rfl (hb hby d10_4) rfl rfl ?_
    show Steps p.tables e below (T1.setTop (mkF m 5 #[.val (.ref a0), .val (.int p1)] [(.ref a0)])) t
    refine XS.iloadN X1.here hx rfl (hb hby d10_5) rfl ?_
    exact kt
  obtain ⟨T2, h2, X2, e2, W2, st2⟩ := putF X1 hx hZ hown (host := "") (Or.inl (own_wd hw 57 rfl)) Via.refl e1 F_value_a0 E_a0 (Or.inr ⟨(own_wd hw 58 rfl), rfl, hnm⟩) (own_wd hw 45 rfl) (ty := .int) (by decide) rfl rfl (g := (mkF m 6 #[.val (.ref a0), .val (.int p1)] [(.int p1), (.ref a0)])) rfl rfl (hb hby d10_6)
  have Fw2 : Fld Z h2 a0 "java/lang/Integer" "value" "I" (.int p1) := F_value_a0.same W2
  have KC2 : Keep h0 h2 [a0] := (Keep.refl h0 [a0]).wr W2 (Or.inl (List.mem_of_getElem? (i := 0) rfl))
  have N2 := Fr.snoc X2 N1 gn_a0
  refine OGo.step st2 ?_
  show OGo _ _ _ _ _ _ _ (T2.setTop (mkF m 9 #[.val (.ref a0), .val (.int p1)] []))
  refine OGo.retV X2 hx hlk hret (hb hby d10_9) ?_ (by decide) (by decide)
  show Q10 Z a0 p1 u_value_a0 h0 n0 _ T2.heap _
  rw [e2]
  exact ⟨rfl, N2, KC2, (E_a0.wr W2)⟩
/-! body 9: java/lang/Integer.valueOf:(I)Ljava/lang/Integer; -/
theorem d9_0 : decode jdk_33_method_22_code 0 = .ok (.iload_n 0, 1) := by decide +kernel
theorem d9_1 : decode jdk_33_method_22_code 1 = .ok (.bipush (-128), 2) := by decide +kernel
theorem d9_3 : decode jdk_33_method_22_code 3 = .ok (.if_icmp .lt 20, 3) := by decide +kernel
theorem d9_6 : decode jdk_33_method_22_code 6 = .ok (.iload_n 0, 1) := by decide +kernel
theorem d9_7 : decode jdk_33_method_22_code 7 = .ok (.getstatic 191, 3) := by decide +kernel
theorem d9_10 : decode jdk_33_method_22_code 10 = .ok (.if_icmp .gt 13, 3) := by decide +kernel
theorem d9_13 : decode jdk_33_method_22_code 13 = .ok (.getstatic 195, 3) := by decide +kernel
theorem d9_16 : decode jdk_33_method_22_code 16 = .ok (.iload_n 0, 1) := by decide +kernel
theorem d9_17 : decode jdk_33_method_22_code 17 = .ok (.sipush 128, 3) := by decide +kernel
theorem d9_20 : decode jdk_33_method_22_code 20 = .ok (.iadd, 1) := by decide +kernel
theorem d9_21 : decode jdk_33_method_22_code 21 = .ok (.aaload, 1) := by decide +kernel
theorem d9_22 : decode jdk_33_method_22_code 22 = .ok (.areturn, 1) := by decide +kernel
theorem d9_23 : decode jdk_33_method_22_code 23 = .ok (.new 1, 3) := by decide +kernel
theorem d9_26 : decode jdk_33_method_22_code 26 = .ok (.dup, 1) := by decide +kernel
theorem d9_27 : decode jdk_33_method_22_code 27 = .ok (.iload_n 0, 1) := by decide +kernel
theorem d9_28 : decode jdk_33_method_22_code 28 = .ok (.invokespecial 199, 3) := by decide +kernel
theorem d9_31 : decode jdk_33_method_22_code 31 = .ok (.areturn, 1) := by decide +kernel
theorem pn_9 : plainName "java/lang/Integer" = true := by first | (simp [plainName, overriddenIn]; done) | decide +kernel
theorem pd_9_0 : parseMethodDescriptor "(I)V" = some ⟨[.int], none⟩ := by decide +kernel
theorem ef_9 (m : MethodId) (x0 : Int32) : entryFrame m #[(.int x0)] 1 = mkF m 0 #[.val (.int x0)] [] := by first | (simp [entryFrame, mkF, argsToLocals, Value.category]; done) | rfl
def Q9 (Z : State) (p0 : Int32) (w_high : Int32) (w_cache : Addr) (h0 : Heap) (n0 : Nat) (v : Option Value) (h : Heap) (L : List Loc) : Prop := ∃ r : Addr, v = some (.ref r) ∧ Fr n0 L ∧ Keep h0 h [] ∧ Exa Z h r "java/lang/Integer"
set_option maxRecDepth 65536 in
set_option maxHeartbeats 40000000 in
theorem rm9 (l : Launch) (Z : State) (az : Array Value) (hw : ∀ d ∈ tables_1, d.before az Z = true) (ws : List Jvm.Cond) (p0 : Int32) (w_high : Int32) (w_cache : Addr) (h0 : Heap) (n0 : Nat) (Z0 : n0 ≤ h0.size) (S_high : Sta Z h0 "java/lang/Integer$IntegerCache" "high" "I" (.int w_high)) (S_cache : Sta Z h0 "java/lang/Integer$IntegerCache" "cache" "[Ljava/lang/Integer;" (.ref w_cache)) (hHi : w_high = (127 : Int32)) (Ca : OCache Z h0 w_cache) :
    OCtr l Z (⟨"java/lang/Integer", "valueOf", "(I)Ljava/lang/Integer;"⟩ : MethodName) jdk_33_method_22_code 1 (some (.object "java/lang/Integer")) ws ({ frames := 3, cells := 1, slots := 1, locals := 38 } : Room) #[(.int p0)] h0 (Q9 Z p0 w_high w_cache h0 n0) := by
  refine OCtr.of (plainFor_of_name pn_9) ?_
  intro p e s m below meth c s₁ X0 hx hlk hZ hown0 hnm hby hml0 hret e0
  have hown : s.vm.findClass "java/lang/Integer" = some m.cls := hown0
  have hml : c.maxLocals = 1 := hml0
  have N0 := Fr.nil n0
  refine OGo.step (fun t k => castTop (ef_9 m p0) k) ?_
  refine OGo.step (F' := s₁.setTop (mkF m 3 #[.val (.int p0)] [(.int (-128 : Int32)), (.int p0)])) (fun t kt => ?_) ?_
  · show Steps p.tables e below (s₁.setTop (mkF m 0 #[.val (.int p0)] [])) t
    refine XS.iloadN X0.here hx rfl (hb hby d9_0) rfl ?_
    show Steps p.tables e below (s₁.setTop (mkF m 1 #[.val (.int p0)] [(.int p0)])) t
    refine XS.bipush X0.here hx rfl (hb hby d9_1) ?_
    exact kt
  by_cases hc3 : p0 < (-128 : Int32)
  · refine OGo.step (F' := s₁.setTop (mkF m 23 #[.val (.int p0)] [])) (fun t kt => ?_) ?_
    · show Steps p.tables e below (s₁.setTop (mkF m 3 #[.val (.int p0)] [(.int (-128 : Int32)), (.int p0)])) t
      refine XS.icmpYes X0.here hx rfl (pc0 := 3) (pc' := 23) rfl (hb hby d9_3) rfl (tlt hc3).1 (by decide) (by decide) ?_
      exact kt
    obtain ⟨T1, h1, X1, e1, E1, A1, D1, -, st1⟩ := newO X0 hx hZ hown (own_wd hw 44 rfl) (own_wd hw 45 rfl) (own_wd hw 42 rfl) e0 (g := (mkF m 23 #[.val (.int p0)] [])) rfl (hb hby d9_23) (by decide) (by decide)
    obtain ⟨b1, g1⟩ : ∃ z, z = h0.size := ⟨_, rfl⟩
    rw [← g1] at A1 D1 st1
    have sz_b1 : h0.size ≤ b1 := Nat.le_trans (Keep.refl h0 []).1 (Nat.le_of_eq g1.symm)
    have gn_b1 : n0 ≤ b1 := Nat.le_trans Z0 sz_b1
    have KC1 : Keep h0 h1 [] := (Keep.refl h0 []).ext E1
    have F1_value : Fld Z h1 b1 "java/lang/Integer" "value" "I" (.int (0 : Int32)) := D1 (Or.inr (own_wd hw 58 rfl)) (ty := .int) (by decide)
    refine OGo.step st1 ?_
    show OGo _ _ _ _ _ _ _ (T1.setTop (mkF m 26 #[.val (.int p0)] [(.ref b1)]))
    refine OGo.step (F' := T1.setTop (mkF m 28 #[.val (.int p0)] [(.int p0), (.ref b1), (.ref b1)])) (fun t kt => ?_) ?_
    · show Steps p.tables e below (T1.setTop (mkF m 26 #[.val (.int p0)] [(.ref b1)])) t
      refine XS.dup X1.here hx rfl (hb hby d9_26) rfl rfl ?_
      show Steps p.tables e below (T1.setTop (mkF m 27 #[.val (.int p0)] [(.ref b1), (.ref b1)])) t
      refine XS.iloadN X1.here hx rfl (hb hby d9_27) rfl ?_
      exact kt
    refine OGo.callC X1 hx hZ (y := (⟨"java/lang/Integer", "<init>", "(I)V"⟩ : MethodName)) rfl hown (own_wd hw 46 rfl) (own_wd hw 47 rfl) (own_wd hw 42 rfl) (own_wd hw 49 rfl) (by decide) (rm10 l Z az hw [] b1 p0 (.int (0 : Int32)) h1 n0 (Nat.le_trans Z0 KC1.1) A1 F1_value gn_b1) (W := 1) (by decide) (by decide) (b := b1) (g := (mkF m 28 #[.val (.int p0)] [(.int p0), (.ref b1), (.ref b1)])) rfl (by rw [hml]; rfl) (argsL := [(.int p0)]) (rest := [(.ref b1)]) (lenOf pd_9_0 rfl) rfl (by show 2 * 0 + _ ≤ _; exact Nat.le_of_eq rfl) (hb hby d9_28) rfl e1 (by decide) (by decide) ?_
    rintro _ T2 L2 X2 ⟨rfl, Nq2, K2, P2_0⟩
    have KC2 : Keep h0 T2.heap [] := KC1.trans K2 (allS (Or.inr sz_b1) all0)
    have N2 := Fr.app N0 Nq2
    show OGo _ _ _ _ _ _ _ (T2.setTop (mkF m 31 #[.val (.int p0)] [(.ref b1)]))
    refine OGo.retA X2 hx hlk (t := (.object "java/lang/Integer")) hret rfl rfl rfl (hb hby d9_31) ?_ (by decide) (by decide)
    show Q9 Z p0 w_high w_cache h0 n0 _ T2.heap _
    exact ⟨b1, rfl, N2, KC2, P2_0⟩
  · refine OGo.step (F' := s₁.setTop (mkF m 6 #[.val (.int p0)] [])) (fun t kt => ?_) ?_
    · show Steps p.tables e below (s₁.setTop (mkF m 3 #[.val (.int p0)] [(.int (-128 : Int32)), (.int p0)])) t
      refine XS.icmpNo X0.here hx rfl (hb hby d9_3) rfl (flt hc3).1 ?_
      exact kt
    refine OGo.step (F' := s₁.setTop (mkF m 7 #[.val (.int p0)] [(.int p0)])) (fun t kt => ?_) ?_
    · show Steps p.tables e below (s₁.setTop (mkF m 6 #[.val (.int p0)] [])) t
      refine XS.iloadN X0.here hx rfl (hb hby d9_6) rfl ?_
      exact kt
    obtain ⟨T3, X3, e3, st3⟩ := getS2 X0 hx hZ hown (host := "") (Or.inl (own_wd hw 62 rfl)) Via.refl e0 S_high (g := (mkF m 7 #[.val (.int p0)] [(.int p0)])) rfl (hb hby d9_7)
    refine OGo.step st3 ?_
    show OGo _ _ _ _ _ _ _ (T3.setTop (mkF m 10 #[.val (.int p0)] [(.int w_high), (.int p0)]))
    by_cases hc10 : w_high < p0
    · refine OGo.step (F' := T3.setTop (mkF m 23 #[.val (.int p0)] [])) (fun t kt => ?_) ?_
      · show Steps p.tables e below (T3.setTop (mkF m 10 #[.val (.int p0)] [(.int w_high), (.int p0)])) t
        refine XS.icmpYes X3.here hx rfl (pc0 := 10) (pc' := 23) rfl (hb hby d9_10) rfl (tlt hc10).2.2.1 (by decide) (by decide) ?_
        exact kt
      obtain ⟨T4, h4, X4, e4, E4, A4, D4, -, st4⟩ := newO X3 hx hZ hown (own_wd hw 44 rfl) (own_wd hw 45 rfl) (own_wd hw 42 rfl) e3 (g := (mkF m 23 #[.val (.int p0)] [])) rfl (hb hby d9_23) (by decide) (by decide)
      obtain ⟨b4, g4⟩ : ∃ z, z = h0.size := ⟨_, rfl⟩
      rw [← g4] at A4 D4 st4
      have sz_b4 : h0.size ≤ b4 := Nat.le_trans (Keep.refl h0 []).1 (Nat.le_of_eq g4.symm)
      have gn_b4 : n0 ≤ b4 := Nat.le_trans Z0 sz_b4
      have KC4 : Keep h0 h4 [] := (Keep.refl h0 []).ext E4
      have F4_value : Fld Z h4 b4 "java/lang/Integer" "value" "I" (.int (0 : Int32)) := D4 (Or.inr (own_wd hw 58 rfl)) (ty := .int) (by decide)
      refine OGo.step st4 ?_
      show OGo _ _ _ _ _ _ _ (T4.setTop (mkF m 26 #[.val (.int p0)] [(.ref b4)]))
      refine OGo.step (F' := T4.setTop (mkF m 28 #[.val (.int p0)] [(.int p0), (.ref b4), (.ref b4)])) (fun t kt => ?_) ?_
      · show Steps p.tables e below (T4.setTop (mkF m 26 #[.val (.int p0)] [(.ref b4)])) t
        refine XS.dup X4.here hx rfl (hb hby d9_26) rfl rfl ?_
        show Steps p.tables e below (T4.setTop (mkF m 27 #[.val (.int p0)] [(.ref b4), (.ref b4)])) t
        refine XS.iloadN X4.here hx rfl (hb hby d9_27) rfl ?_
        exact kt
      refine OGo.callC X4 hx hZ (y := (⟨"java/lang/Integer", "<init>", "(I)V"⟩ : MethodName)) rfl hown (own_wd hw 46 rfl) (own_wd hw 47 rfl) (own_wd hw 42 rfl) (own_wd hw 49 rfl) (by decide) (rm10 l Z az hw [] b4 p0 (.int (0 : Int32)) h4 n0 (Nat.le_trans Z0 KC4.1) A4 F4_value gn_b4) (W := 1) (by decide) (by decide) (b := b4) (g := (mkF m 28 #[.val (.int p0)] [(.int p0), (.ref b4), (.ref b4)])) rfl (by rw [hml]; rfl) (argsL := [(.int p0)]) (rest := [(.ref b4)]) (lenOf pd_9_0 rfl) rfl (by show 2 * 0 + _ ≤ _; exact Nat.le_of_eq rfl) (hb hby d9_28) rfl e4 (by decide) (by decide) ?_
      rintro _ T5 L5 X5 ⟨rfl, Nq5, K5, P5_0⟩
      have KC5 : Keep h0 T5.heap [] := KC4.trans K5 (allS (Or.inr sz_b4) all0)
      have N5 := Fr.app N0 Nq5
      show OGo _ _ _ _ _ _ _ (T5.setTop (mkF m 31 #[.val (.int p0)] [(.ref b4)]))
      refine OGo.retA X5 hx hlk (t := (.object "java/lang/Integer")) hret rfl rfl rfl (hb hby d9_31) ?_ (by decide) (by decide)
      show Q9 Z p0 w_high w_cache h0 n0 _ T5.heap _
      exact ⟨b4, rfl, N5, KC5, P5_0⟩
    · refine OGo.step (F' := T3.setTop (mkF m 13 #[.val (.int p0)] [])) (fun t kt => ?_) ?_
      · show Steps p.tables e below (T3.setTop (mkF m 10 #[.val (.int p0)] [(.int w_high), (.int p0)])) t
        refine XS.icmpNo X3.here hx rfl (hb hby d9_10) rfl (flt hc10).2.2.1 ?_
        exact kt
      obtain ⟨T6, X6, e6, st6⟩ := getS2 X3 hx hZ hown (host := "") (Or.inl (own_wd hw 64 rfl)) Via.refl e3 S_cache (g := (mkF m 13 #[.val (.int p0)] [])) rfl (hb hby d9_13)
      refine OGo.step st6 ?_
      show OGo _ _ _ _ _ _ _ (T6.setTop (mkF m 16 #[.val (.int p0)] [(.ref w_cache)]))
      refine OGo.step (F' := T6.setTop (mkF m 21 #[.val (.int p0)] [(.int (p0 + (128 : Int32))), (.ref w_cache)])) (fun t kt => ?_) ?_
      · show Steps p.tables e below (T6.setTop (mkF m 16 #[.val (.int p0)] [(.ref w_cache)])) t
        refine XS.iloadN X6.here hx rfl (hb hby d9_16) rfl ?_
        show Steps p.tables e below (T6.setTop (mkF m 17 #[.val (.int p0)] [(.int p0), (.ref w_cache)])) t
        refine XS.sipush X6.here hx rfl (hb hby d9_17) ?_
        show Steps p.tables e below (T6.setTop (mkF m 20 #[.val (.int p0)] [(.int (128 : Int32)), (.int p0), (.ref w_cache)])) t
        refine XS.iadd X6.here hx rfl (hb hby d9_20) rfl ?_
        exact kt
      obtain ⟨cl7, Ar7, S7, H7⟩ := Ca
      obtain ⟨ix1, ix2⟩ := own_ci hc3 (by rw [← hHi]; exact hc10)
      obtain ⟨rc, hat7, E_rc⟩ := H7 _ ix2
      have hin7 : ¬ ((p0 + (128 : Int32)) < 0 ∨ cl7.slots.size ≤ ((p0 + (128 : Int32))).toNatClampNeg) := by rw [S7]; intro q; rcases q with q | q; exact ix1 q; omega
      refine OGo.step (F' := T6.setTop (mkF m 22 #[.val (.int p0)] [(.ref rc)])) (fun t kt => ?_) ?_
      · show Steps p.tables e below (T6.setTop (mkF m 21 #[.val (.int p0)] [(.int (p0 + (128 : Int32))), (.ref w_cache)])) t
        refine X6.aaload hx (j := (p0 + (128 : Int32))) (v := .ref rc) (by rw [e6]; exact Ar7.1) (State.isArrayOf_alike hZ.alike Ar7.2.1) rfl Ar7.2.2 hin7 hat7 (g := (mkF m 21 #[.val (.int p0)] [(.int (p0 + (128 : Int32))), (.ref w_cache)])) rfl rfl (hb hby d9_21) _ ?_
        exact kt
      refine OGo.retA X6 hx hlk (t := (.object "java/lang/Integer")) hret rfl rfl rfl (hb hby d9_22) ?_ (by decide) (by decide)
      show Q9 Z p0 w_high w_cache h0 n0 _ T6.heap _
      rw [e6]
      exact ⟨rc, rfl, N0, (Keep.refl h0 []), E_rc⟩
def own_c0 (p : Int32) : Int32 := (p &&& (255 : Int32))
def own_c1 (p : Int32) : Int32 := (((p.toUInt32 >>> ((8 : Int32) &&& 31).toUInt32).toInt32) &&& (255 : Int32))
def own_c2 (p : Int32) : Int32 := (((p.toUInt32 >>> ((16 : Int32) &&& 31).toUInt32).toInt32) &&& (255 : Int32))
def own_c3 (p : Int32) : Int32 := ((p.toUInt32 >>> ((24 : Int32) &&& 31).toUInt32).toInt32)
def own_ch (x : Int32) : Int32 := (x.toUInt32.toUInt16.toUInt32.toInt32)
def own_cn (p : Int32) : Int32 := ((p &&& (7 : Int32)) % (5 : Int32))
theorem own_r0 (p : Int32) : 0 ≤ (own_c0 p).toInt ∧ (own_c0 p).toInt ≤ 255 := c_and p (255 : Int32) (by decide)
theorem own_r1 (p : Int32) : 0 ≤ (own_c1 p).toInt ∧ (own_c1 p).toInt ≤ 255 := own_r0 _
theorem own_r2 (p : Int32) : 0 ≤ (own_c2 p).toInt ∧ (own_c2 p).toInt ≤ 255 := own_r0 _
theorem own_r3 (p : Int32) : 0 ≤ (own_c3 p).toInt ∧ (own_c3 p).toInt ≤ 255 := by
  have e := c_iushr p (24 : Int32) 24 rfl (by decide)
  unfold own_c3; rw [e]; omega
theorem own_chv (x : Int32) (h : 0 ≤ x.toInt ∧ x.toInt ≤ 255) : own_ch x = x := by
  unfold own_ch
  obtain ⟨e1, e2, e3⟩ := c_i2c x
  rw [← Int32.toInt_inj]; omega
theorem own_c255 (x : Int32) (h : 0 ≤ x.toInt ∧ x.toInt ≤ 255) : ¬ ((255 : Int32) < own_ch x) := by
  rw [own_chv x h, Int32.lt_iff_toInt_lt]; simp only [Int32.reduceToInt]; omega
theorem own_by_inj (x y : Int32) (h : 0 ≤ x.toInt ∧ x.toInt ≤ 255) (g : 0 ≤ y.toInt ∧ y.toInt ≤ 255) (q : own_by x = own_by y) : x = y := by
  have q : x.toInt8.toInt32.toInt8.toInt32 = y.toInt8.toInt32.toInt8.toInt32 := q
  have a1 := c_i2b x; have a2 := c_i2b x.toInt8.toInt32; have b1 := c_i2b y; have b2 := c_i2b y.toInt8.toInt32
  rw [← Int32.toInt_inj] at q ⊢; omega
theorem own_cnt (p : Int32) : own_cn p < (5 : Int32) := by
  unfold own_cn
  have h0 := (c_andS p (7 : Int32)).2.2 (by decide)
  generalize p &&& (7 : Int32) = w at *
  have e := (c_irem w (5 : Int32) 5 rfl).1 h0
  simp only [Int32.lt_iff_toInt_lt, e, Int32.reduceToInt]
  omega
theorem own_atb (p : Int32) : ¬ (p &&& (3 : Int32)) < 0 ∧ (p &&& (3 : Int32)) < (4 : Int32) := by
  have e := c_and p (3 : Int32) (by decide)
  simp only [Int32.lt_iff_toInt_lt, Int32.reduceToInt] at *; omega
theorem own_at3 (p : Int32) (h0 : ¬ ((p &&& (3 : Int32)) = (0 : Int32))) (h1 : ¬ ((p &&& (3 : Int32)) = (1 : Int32))) (h2 : ¬ ((p &&& (3 : Int32)) = (2 : Int32))) : (p &&& (3 : Int32)) = (3 : Int32) := by
  obtain ⟨a, b⟩ := own_atb p
  rw [← Int32.toInt_inj] at *; simp only [Int32.lt_iff_toInt_lt, Int32.reduceToInt] at *; omega
/-- what the law looks for -/
def own_exp (n c0 c1 c2 c3 k : Int32) : Int32 := if (0 : Int32) < n ∧ c0 = k then 0 else if (1 : Int32) < n ∧ c1 = k then 1 else if (2 : Int32) < n ∧ c2 = k then 2 else if (3 : Int32) < n ∧ c3 = k then 3 else -1
theorem own_e (r nm : Addr) (x k : Int32) (hx : 0 ≤ x.toInt ∧ x.toInt ≤ 255) (hk : 0 ≤ k.toInt ∧ k.toInt ≤ 255) (q : r = nm → x = k) : f7 r nm (own_by (own_ch x)) (own_by (own_ch k)) = (0 : Int32) ↔ ¬ (x = k) := by
  rw [own_chv x hx, own_chv k hk]
  unfold f7 f8
  by_cases e : x = k
  · subst e; simp
  · have n1 : ¬ r = nm := fun z => e (q z)
    have n2 : ¬ own_by x = own_by k := fun z => e (own_by_inj x k hx hk z)
    simp [n1, n2, e]
theorem own_fin (n c0 c1 c2 c3 k : Int32) (r0 r1 r2 r3 nm : Addr) (b0 b1 b2 b3 bn : Int32) (e0 : f7 r0 nm b0 bn = (0 : Int32) ↔ ¬ (c0 = k)) (e1 : f7 r1 nm b1 bn = (0 : Int32) ↔ ¬ (c1 = k)) (e2 : f7 r2 nm b2 bn = (0 : Int32) ↔ ¬ (c2 = k)) (e3 : f7 r3 nm b3 bn = (0 : Int32) ↔ ¬ (c3 = k)) (hn : n < (5 : Int32)) : (f6 n nm r0 r1 r2 r3 b0 b1 b2 b3 bn) = own_exp n c0 c1 c2 c3 k := by
  unfold f6 own_exp
  simp only [e0, e1, e2, e3]
  simp only [Int32.lt_iff_toInt_lt, Int32.reduceToInt] at *
  by_cases z0 : c0 = k <;> by_cases z1 : c1 = k <;> by_cases z2 : c2 = k <;> by_cases z3 : c3 = k <;> simp only [z0, z1, z2, z3, and_true, and_false, not_true, not_false_iff, if_true, if_false] <;> (repeat' split) <;> first | rfl | omega
theorem own_z (n : Int32) : f6z n = (-1 : Int32) := by
  unfold f6z
  repeat' split
  all_goals rfl
theorem own_n (n : Int32) : f6n n = (-1 : Int32) := by
  unfold f6n
  repeat' split
  all_goals rfl
/-! body 0: com/example/kette/kette/JsonObjectWalkPinLaw.law:(III)Z -/
theorem pn_0 : plainName "com/example/kette/kette/JsonObjectWalkPinLaw" = true := by first | (simp [plainName, overriddenIn]; done) | decide +kernel
theorem pd_0_0 : parseMethodDescriptor "(C)Ljava/lang/String;" = some ⟨[.char], some (.object "java/lang/String")⟩ := by decide +kernel
theorem pd_0_1 : parseMethodDescriptor "([Ljava/lang/String;ILjava/lang/Object;)I" = some ⟨[(.array (.object "java/lang/String")), .int, (.object "java/lang/Object")], some .int⟩ := by decide +kernel
theorem pd_0_2 : parseMethodDescriptor "(I)Ljava/lang/Integer;" = some ⟨[.int], some (.object "java/lang/Integer")⟩ := by decide +kernel
theorem ef_0 (m : MethodId) (x0 : Int32) (x1 : Int32) (x2 : Int32) : entryFrame m #[(.int x0), (.int x1), (.int x2)] maxLocals = mkF m 0 #[.val (.int x0), .val (.int x1), .val (.int x2), .unset, .unset, .unset, .unset, .unset, .unset, .unset, .unset, .unset, .unset, .unset] [] := by first | (simp [entryFrame, mkF, argsToLocals, Value.category, maxLocals]; done) | rfl
def Q0 (Z : State) (p0 : Int32) (p1 : Int32) (p2 : Int32) (w_high : Int32) (w_cache : Addr) (w_COMPACT_STRINGS : Int32) (h0 : Heap) (n0 : Nat) (v : Option Value) (h : Heap) (L : List Loc) : Prop := v = some (.int (1 : Int32)) ∧ Fr n0 L ∧ Keep h0 h []
set_option maxRecDepth 65536 in
set_option maxHeartbeats 40000000 in
theorem rm0 (l : Launch) (Z : State) (az : Array Value) (hw : ∀ d ∈ tables_1, d.before az Z = true) (ws : List Jvm.Cond) (p0 : Int32) (p1 : Int32) (p2 : Int32) (w_high : Int32) (w_cache : Addr) (w_COMPACT_STRINGS : Int32) (h0 : Heap) (n0 : Nat) (Z0 : n0 ≤ h0.size) (S_high : Sta Z h0 "java/lang/Integer$IntegerCache" "high" "I" (.int w_high)) (S_cache : Sta Z h0 "java/lang/Integer$IntegerCache" "cache" "[Ljava/lang/Integer;" (.ref w_cache)) (hHi : w_high = (127 : Int32)) (Ca : OCache Z h0 w_cache) (hC : ¬ (w_COMPACT_STRINGS = (0 : Int32))) (S_String_COMPACT_STRINGS : Sta Z h0 "java/lang/String" "COMPACT_STRINGS" "Z" (.int w_COMPACT_STRINGS)) :
    OCtr l Z x code maxLocals ret ws room_1 #[(.int p0), (.int p1), (.int p2)] h0 (Q0 Z p0 p1 p2 w_high w_cache w_COMPACT_STRINGS h0 n0) := by
  refine OCtr.of (plainFor_of_name pn_0) ?_
  intro p e s m below meth c s₁ X0 hx hlk hZ hown0 hnm hby hml0 hret e0
  have hown : s.vm.findClass "com/example/kette/kette/JsonObjectWalkPinLaw" = some m.cls := hown0
  have hml : c.maxLocals = 14 := hml0
  have N0 := Fr.nil n0
  refine OGo.step (fun t k => castTop (ef_0 m p0 p1 p2) k) ?_
  refine OGo.step (F' := s₁.setTop (mkF m 33 #[.val (.int p0), .val (.int p1), .val (.int p2), .val (.int (own_c0 p0)), .val (.int (own_c1 p0)), .val (.int (own_c2 p0)), .val (.int (own_c3 p0)), .unset, .unset, .unset, .unset, .unset, .unset, .unset] [(.int (4 : Int32))])) (fun t kt => ?_) ?_
  · show Steps p.tables e below (s₁.setTop (mkF m 0 #[.val (.int p0), .val (.int p1), .val (.int p2), .unset, .unset, .unset, .unset, .unset, .unset, .unset, .unset, .unset, .unset, .unset] [])) t
    refine XS.iloadN X0.here hx rfl (hb hby at_0) rfl ?_
    refine XS.sipush X0.here hx rfl (hb hby at_1) ?_
    refine XS.iand X0.here hx rfl (hb hby at_4) rfl ?_
    refine XS.istoreN X0.here hx rfl (hb hby at_5) rfl (l' := #[.val (.int p0), .val (.int p1), .val (.int p2), .val (.int (own_c0 p0)), .unset, .unset, .unset, .unset, .unset, .unset, .unset, .unset, .unset, .unset]) rfl ?_
    refine XS.iloadN X0.here hx rfl (hb hby at_6) rfl ?_
    refine XS.bipush X0.here hx rfl (hb hby at_7) ?_
    refine XS.iushr X0.here hx rfl (hb hby at_9) rfl ?_
    refine XS.sipush X0.here hx rfl (hb hby at_10) ?_
    refine XS.iand X0.here hx rfl (hb hby at_13) rfl ?_
    refine XS.istore X0.here hx rfl (hb hby at_14) rfl (l' := #[.val (.int p0), .val (.int p1), .val (.int p2), .val (.int (own_c0 p0)), .val (.int (own_c1 p0)), .unset, .unset, .unset, .unset, .unset, .unset, .unset, .unset, .unset]) rfl ?_
    refine XS.iloadN X0.here hx rfl (hb hby at_16) rfl ?_
    refine XS.bipush X0.here hx rfl (hb hby at_17) ?_
    refine XS.iushr X0.here hx rfl (hb hby at_19) rfl ?_
    refine XS.sipush X0.here hx rfl (hb hby at_20) ?_
    refine XS.iand X0.here hx rfl (hb hby at_23) rfl ?_
    refine XS.istore X0.here hx rfl (hb hby at_24) rfl (l' := #[.val (.int p0), .val (.int p1), .val (.int p2), .val (.int (own_c0 p0)), .val (.int (own_c1 p0)), .val (.int (own_c2 p0)), .unset, .unset, .unset, .unset, .unset, .unset, .unset, .unset]) rfl ?_
    refine XS.iloadN X0.here hx rfl (hb hby at_26) rfl ?_
    refine XS.bipush X0.here hx rfl (hb hby at_27) ?_
    refine XS.iushr X0.here hx rfl (hb hby at_29) rfl ?_
    refine XS.istore X0.here hx rfl (hb hby at_30) rfl (l' := #[.val (.int p0), .val (.int p1), .val (.int p2), .val (.int (own_c0 p0)), .val (.int (own_c1 p0)), .val (.int (own_c2 p0)), .val (.int (own_c3 p0)), .unset, .unset, .unset, .unset, .unset, .unset, .unset]) rfl ?_
    refine XS.iconst X0.here hx rfl (hb hby at_32) ?_
    exact kt
  obtain ⟨T1, h1, k1, X1, e1, E1, A1, O1, st1⟩ := newR X0 hx hZ hown (own_wd hw 0 rfl) (own_wd hw 1 rfl) e0 (g := (mkF m 33 #[.val (.int p0), .val (.int p1), .val (.int p2), .val (.int (own_c0 p0)), .val (.int (own_c1 p0)), .val (.int (own_c2 p0)), .val (.int (own_c3 p0)), .unset, .unset, .unset, .unset, .unset, .unset, .unset] [(.int (4 : Int32))])) rfl (hb hby at_33) rfl (by decide) (cap := 4) (by decide) (by decide) (by decide) (by decide)
  obtain ⟨b1, g1⟩ : ∃ z, z = h0.size := ⟨_, rfl⟩
  rw [← g1] at A1 st1
  have sz_b1 : h0.size ≤ b1 := Nat.le_trans (Keep.refl h0 []).1 (Nat.le_of_eq g1.symm)
  have gn_b1 : n0 ≤ b1 := Nat.le_trans Z0 sz_b1
  have KC1 : Keep h0 h1 [] := (Keep.refl h0 []).ext E1
  have V1 : Arv Z h1 b1 k1 (.object "java/lang/String") (4 : Int32) [.null, .null, .null, .null] .null := (Arv.new A1 (by decide)).pad (pad_rep [] .null 4)
  refine OGo.step st1 ?_
  show OGo _ _ _ _ _ _ _ (T1.setTop (mkF m 36 #[.val (.int p0), .val (.int p1), .val (.int p2), .val (.int (own_c0 p0)), .val (.int (own_c1 p0)), .val (.int (own_c2 p0)), .val (.int (own_c3 p0)), .unset, .unset, .unset, .unset, .unset, .unset, .unset] [(.ref b1)]))
  refine OGo.step (F' := T1.setTop (mkF m 43 #[.val (.int p0), .val (.int p1), .val (.int p2), .val (.int (own_c0 p0)), .val (.int (own_c1 p0)), .val (.int (own_c2 p0)), .val (.int (own_c3 p0)), .val (.ref b1), .unset, .unset, .unset, .unset, .unset, .unset] [(.int (own_ch (own_c0 p0))), (.int (0 : Int32)), (.ref b1)])) (fun t kt => ?_) ?_
  · show Steps p.tables e below (T1.setTop (mkF m 36 #[.val (.int p0), .val (.int p1), .val (.int p2), .val (.int (own_c0 p0)), .val (.int (own_c1 p0)), .val (.int (own_c2 p0)), .val (.int (own_c3 p0)), .unset, .unset, .unset, .unset, .unset, .unset, .unset] [(.ref b1)])) t
    refine XS.astore X1.here hx rfl (hb hby at_36) rfl rfl (l' := #[.val (.int p0), .val (.int p1), .val (.int p2), .val (.int (own_c0 p0)), .val (.int (own_c1 p0)), .val (.int (own_c2 p0)), .val (.int (own_c3 p0)), .val (.ref b1), .unset, .unset, .unset, .unset, .unset, .unset]) rfl ?_
    refine XS.aload X1.here hx rfl (hb hby at_38) rfl rfl ?_
    refine XS.iconst X1.here hx rfl (hb hby at_40) ?_
    refine XS.iloadN X1.here hx rfl (hb hby at_41) rfl ?_
    refine XS.i2c X1.here hx rfl (hb hby at_42) rfl ?_
    exact kt
  refine OGo.callS X1 hx hZ (y := (⟨"java/lang/String", "valueOf", "(C)Ljava/lang/String;"⟩ : MethodName)) hown (own_wd hw 2 rfl) (own_wd hw 3 rfl) (own_wd hw 4 rfl) (own_wd hw 5 rfl) (by decide) (rm1 l Z az hw [] (own_ch (own_c0 p0)) w_COMPACT_STRINGS h1 n0 (Nat.le_trans Z0 KC1.1) (own_c255 _ (own_r0 _)) hC (S_String_COMPACT_STRINGS.ext E1)) (W := 2) (by decide) (by decide) (g := (mkF m 43 #[.val (.int p0), .val (.int p1), .val (.int p2), .val (.int (own_c0 p0)), .val (.int (own_c1 p0)), .val (.int (own_c2 p0)), .val (.int (own_c3 p0)), .val (.ref b1), .unset, .unset, .unset, .unset, .unset, .unset] [(.int (own_ch (own_c0 p0))), (.int (0 : Int32)), (.ref b1)])) rfl (by rw [hml]; rfl) (argsL := [(.int (own_ch (own_c0 p0)))]) (rest := [(.int (0 : Int32)), (.ref b1)]) (lenOf pd_0_0 rfl) rfl (by show 2 * 0 + _ ≤ _; exact Nat.le_of_eq rfl) (hb hby at_43) rfl e1 (by decide) (by decide) ?_
  rintro _ T2 L2 X2 ⟨b2_r, b2_t, rfl, Nq2, K2, sz_b2_r, sz_b2_t, P2_0, P2_1, P2_2, P2_3⟩
  have KC2 : Keep h0 T2.heap [] := KC1.trans K2 all0
  have szo_b2_r := sz_b2_r
  replace sz_b2_r : h0.size ≤ b2_r := Nat.le_trans KC1.1 sz_b2_r
  have gn_b2_r : n0 ≤ b2_r := Nat.le_trans Z0 sz_b2_r
  have szo_b2_t := sz_b2_t
  replace sz_b2_t : h0.size ≤ b2_t := Nat.le_trans KC1.1 sz_b2_t
  have gn_b2_t : n0 ≤ b2_t := Nat.le_trans Z0 sz_b2_t
  have N2 := Fr.app N0 Nq2
  show OGo _ _ _ _ _ _ _ (T2.setTop (mkF m 46 #[.val (.int p0), .val (.int p1), .val (.int p2), .val (.int (own_c0 p0)), .val (.int (own_c1 p0)), .val (.int (own_c2 p0)), .val (.int (own_c3 p0)), .val (.ref b1), .unset, .unset, .unset, .unset, .unset, .unset] [(.ref b2_r), (.int (0 : Int32)), (.ref b1)]))
  obtain ⟨cl3, Ar3, q3, S3, N3a, H3, G3⟩ := id ((V1.keep K2 nin0))
  have hin3 : ¬ ((0 : Int32) < 0 ∨ cl3.slots.size ≤ ((0 : Int32)).toNatClampNeg) := inb_of S3 ⟨by decide, by decide⟩
  obtain ⟨T3, h3, X3, e3, W3, st3⟩ := stR X2 hx hZ rfl Ar3 (j := (0 : Int32)) hin3 rfl (Sto.ofV Ar3 q3 O1 (Ins.self P2_0)) (g := (mkF m 46 #[.val (.int p0), .val (.int p1), .val (.int p2), .val (.int (own_c0 p0)), .val (.int (own_c1 p0)), .val (.int (own_c2 p0)), .val (.int (own_c3 p0)), .val (.ref b1), .unset, .unset, .unset, .unset, .unset, .unset] [(.ref b2_r), (.int (0 : Int32)), (.ref b1)])) rfl rfl (hb hby at_46)
  have V3 : Arv Z h3 b1 k1 (.object "java/lang/String") (4 : Int32) [(.ref b2_r), .null, .null, .null] .null := Arv.set Ar3 q3 S3 N3a H3 G3 rfl W3 0 rfl (Nat.le_of_ble_eq_true rfl)
  have KC3 : Keep h0 h3 [] := KC2.wr W3 (Or.inr sz_b1)
  have N3 := Fr.snoc X3 N2 gn_b1
  refine OGo.step st3 ?_
  show OGo _ _ _ _ _ _ _ (T3.setTop (mkF m 47 #[.val (.int p0), .val (.int p1), .val (.int p2), .val (.int (own_c0 p0)), .val (.int (own_c1 p0)), .val (.int (own_c2 p0)), .val (.int (own_c3 p0)), .val (.ref b1), .unset, .unset, .unset, .unset, .unset, .unset] []))
  refine OGo.step (F' := T3.setTop (mkF m 53 #[.val (.int p0), .val (.int p1), .val (.int p2), .val (.int (own_c0 p0)), .val (.int (own_c1 p0)), .val (.int (own_c2 p0)), .val (.int (own_c3 p0)), .val (.ref b1), .unset, .unset, .unset, .unset, .unset, .unset] [(.int (own_ch (own_c1 p0))), (.int (1 : Int32)), (.ref b1)])) (fun t kt => ?_) ?_
  · show Steps p.tables e below (T3.setTop (mkF m 47 #[.val (.int p0), .val (.int p1), .val (.int p2), .val (.int (own_c0 p0)), .val (.int (own_c1 p0)), .val (.int (own_c2 p0)), .val (.int (own_c3 p0)), .val (.ref b1), .unset, .unset, .unset, .unset, .unset, .unset] [])) t
    refine XS.aload X3.here hx rfl (hb hby at_47) rfl rfl ?_
    refine XS.iconst X3.here hx rfl (hb hby at_49) ?_
    refine XS.iload X3.here hx rfl (hb hby at_50) rfl ?_
    refine XS.i2c X3.here hx rfl (hb hby at_52) rfl ?_
    exact kt
  refine OGo.callS X3 hx hZ (y := (⟨"java/lang/String", "valueOf", "(C)Ljava/lang/String;"⟩ : MethodName)) hown (own_wd hw 2 rfl) (own_wd hw 3 rfl) (own_wd hw 4 rfl) (own_wd hw 5 rfl) (by decide) (rm1 l Z az hw [] (own_ch (own_c1 p0)) w_COMPACT_STRINGS h3 n0 (Nat.le_trans Z0 KC3.1) (own_c255 _ (own_r1 _)) hC ((own_stakeep (S_String_COMPACT_STRINGS.ext E1) K2 all0).wr W3)) (W := 2) (by decide) (by decide) (g := (mkF m 53 #[.val (.int p0), .val (.int p1), .val (.int p2), .val (.int (own_c0 p0)), .val (.int (own_c1 p0)), .val (.int (own_c2 p0)), .val (.int (own_c3 p0)), .val (.ref b1), .unset, .unset, .unset, .unset, .unset, .unset] [(.int (own_ch (own_c1 p0))), (.int (1 : Int32)), (.ref b1)])) rfl (by rw [hml]; rfl) (argsL := [(.int (own_ch (own_c1 p0)))]) (rest := [(.int (1 : Int32)), (.ref b1)]) (lenOf pd_0_0 rfl) rfl (by show 2 * 0 + _ ≤ _; exact Nat.le_of_eq rfl) (hb hby at_53) rfl e3 (by decide) (by decide) ?_
  rintro _ T4 L4 X4 ⟨b4_r, b4_t, rfl, Nq4, K4, sz_b4_r, sz_b4_t, P4_0, P4_1, P4_2, P4_3⟩
  have KC4 : Keep h0 T4.heap [] := KC3.trans K4 all0
  have szo_b4_r := sz_b4_r
  replace sz_b4_r : h0.size ≤ b4_r := Nat.le_trans KC3.1 sz_b4_r
  have gn_b4_r : n0 ≤ b4_r := Nat.le_trans Z0 sz_b4_r
  have szo_b4_t := sz_b4_t
  replace sz_b4_t : h0.size ≤ b4_t := Nat.le_trans KC3.1 sz_b4_t
  have gn_b4_t : n0 ≤ b4_t := Nat.le_trans Z0 sz_b4_t
  have N4 := Fr.app N3 Nq4
  show OGo _ _ _ _ _ _ _ (T4.setTop (mkF m 56 #[.val (.int p0), .val (.int p1), .val (.int p2), .val (.int (own_c0 p0)), .val (.int (own_c1 p0)), .val (.int (own_c2 p0)), .val (.int (own_c3 p0)), .val (.ref b1), .unset, .unset, .unset, .unset, .unset, .unset] [(.ref b4_r), (.int (1 : Int32)), (.ref b1)]))
  obtain ⟨cl5, Ar5, q5, S5, N5a, H5, G5⟩ := id ((V3.keep K4 nin0))
  have hin5 : ¬ ((1 : Int32) < 0 ∨ cl5.slots.size ≤ ((1 : Int32)).toNatClampNeg) := inb_of S5 ⟨by decide, by decide⟩
  obtain ⟨T5, h5, X5, e5, W5, st5⟩ := stR X4 hx hZ rfl Ar5 (j := (1 : Int32)) hin5 rfl (Sto.ofV Ar5 q5 O1 (Ins.self P4_0)) (g := (mkF m 56 #[.val (.int p0), .val (.int p1), .val (.int p2), .val (.int (own_c0 p0)), .val (.int (own_c1 p0)), .val (.int (own_c2 p0)), .val (.int (own_c3 p0)), .val (.ref b1), .unset, .unset, .unset, .unset, .unset, .unset] [(.ref b4_r), (.int (1 : Int32)), (.ref b1)])) rfl rfl (hb hby at_56)
  have V5 : Arv Z h5 b1 k1 (.object "java/lang/String") (4 : Int32) [(.ref b2_r), (.ref b4_r), .null, .null] .null := Arv.set Ar5 q5 S5 N5a H5 G5 rfl W5 1 rfl (Nat.le_of_ble_eq_true rfl)
  have KC5 : Keep h0 h5 [] := KC4.wr W5 (Or.inr sz_b1)
  have N5 := Fr.snoc X5 N4 gn_b1
  refine OGo.step st5 ?_
  show OGo _ _ _ _ _ _ _ (T5.setTop (mkF m 57 #[.val (.int p0), .val (.int p1), .val (.int p2), .val (.int (own_c0 p0)), .val (.int (own_c1 p0)), .val (.int (own_c2 p0)), .val (.int (own_c3 p0)), .val (.ref b1), .unset, .unset, .unset, .unset, .unset, .unset] []))
  refine OGo.step (F' := T5.setTop (mkF m 63 #[.val (.int p0), .val (.int p1), .val (.int p2), .val (.int (own_c0 p0)), .val (.int (own_c1 p0)), .val (.int (own_c2 p0)), .val (.int (own_c3 p0)), .val (.ref b1), .unset, .unset, .unset, .unset, .unset, .unset] [(.int (own_ch (own_c2 p0))), (.int (2 : Int32)), (.ref b1)])) (fun t kt => ?_) ?_
  · show Steps p.tables e below (T5.setTop (mkF m 57 #[.val (.int p0), .val (.int p1), .val (.int p2), .val (.int (own_c0 p0)), .val (.int (own_c1 p0)), .val (.int (own_c2 p0)), .val (.int (own_c3 p0)), .val (.ref b1), .unset, .unset, .unset, .unset, .unset, .unset] [])) t
    refine XS.aload X5.here hx rfl (hb hby at_57) rfl rfl ?_
    refine XS.iconst X5.here hx rfl (hb hby at_59) ?_
    refine XS.iload X5.here hx rfl (hb hby at_60) rfl ?_
    refine XS.i2c X5.here hx rfl (hb hby at_62) rfl ?_
    exact kt
  refine OGo.callS X5 hx hZ (y := (⟨"java/lang/String", "valueOf", "(C)Ljava/lang/String;"⟩ : MethodName)) hown (own_wd hw 2 rfl) (own_wd hw 3 rfl) (own_wd hw 4 rfl) (own_wd hw 5 rfl) (by decide) (rm1 l Z az hw [] (own_ch (own_c2 p0)) w_COMPACT_STRINGS h5 n0 (Nat.le_trans Z0 KC5.1) (own_c255 _ (own_r2 _)) hC ((own_stakeep ((own_stakeep (S_String_COMPACT_STRINGS.ext E1) K2 all0).wr W3) K4 all0).wr W5)) (W := 2) (by decide) (by decide) (g := (mkF m 63 #[.val (.int p0), .val (.int p1), .val (.int p2), .val (.int (own_c0 p0)), .val (.int (own_c1 p0)), .val (.int (own_c2 p0)), .val (.int (own_c3 p0)), .val (.ref b1), .unset, .unset, .unset, .unset, .unset, .unset] [(.int (own_ch (own_c2 p0))), (.int (2 : Int32)), (.ref b1)])) rfl (by rw [hml]; rfl) (argsL := [(.int (own_ch (own_c2 p0)))]) (rest := [(.int (2 : Int32)), (.ref b1)]) (lenOf pd_0_0 rfl) rfl (by show 2 * 0 + _ ≤ _; exact Nat.le_of_eq rfl) (hb hby at_63) rfl e5 (by decide) (by decide) ?_
  rintro _ T6 L6 X6 ⟨b6_r, b6_t, rfl, Nq6, K6, sz_b6_r, sz_b6_t, P6_0, P6_1, P6_2, P6_3⟩
  have KC6 : Keep h0 T6.heap [] := KC5.trans K6 all0
  have szo_b6_r := sz_b6_r
  replace sz_b6_r : h0.size ≤ b6_r := Nat.le_trans KC5.1 sz_b6_r
  have gn_b6_r : n0 ≤ b6_r := Nat.le_trans Z0 sz_b6_r
  have szo_b6_t := sz_b6_t
  replace sz_b6_t : h0.size ≤ b6_t := Nat.le_trans KC5.1 sz_b6_t
  have gn_b6_t : n0 ≤ b6_t := Nat.le_trans Z0 sz_b6_t
  have N6 := Fr.app N5 Nq6
  show OGo _ _ _ _ _ _ _ (T6.setTop (mkF m 66 #[.val (.int p0), .val (.int p1), .val (.int p2), .val (.int (own_c0 p0)), .val (.int (own_c1 p0)), .val (.int (own_c2 p0)), .val (.int (own_c3 p0)), .val (.ref b1), .unset, .unset, .unset, .unset, .unset, .unset] [(.ref b6_r), (.int (2 : Int32)), (.ref b1)]))
  obtain ⟨cl7, Ar7, q7, S7, N7a, H7, G7⟩ := id ((V5.keep K6 nin0))
  have hin7 : ¬ ((2 : Int32) < 0 ∨ cl7.slots.size ≤ ((2 : Int32)).toNatClampNeg) := inb_of S7 ⟨by decide, by decide⟩
  obtain ⟨T7, h7, X7, e7, W7, st7⟩ := stR X6 hx hZ rfl Ar7 (j := (2 : Int32)) hin7 rfl (Sto.ofV Ar7 q7 O1 (Ins.self P6_0)) (g := (mkF m 66 #[.val (.int p0), .val (.int p1), .val (.int p2), .val (.int (own_c0 p0)), .val (.int (own_c1 p0)), .val (.int (own_c2 p0)), .val (.int (own_c3 p0)), .val (.ref b1), .unset, .unset, .unset, .unset, .unset, .unset] [(.ref b6_r), (.int (2 : Int32)), (.ref b1)])) rfl rfl (hb hby at_66)
  have V7 : Arv Z h7 b1 k1 (.object "java/lang/String") (4 : Int32) [(.ref b2_r), (.ref b4_r), (.ref b6_r), .null] .null := Arv.set Ar7 q7 S7 N7a H7 G7 rfl W7 2 rfl (Nat.le_of_ble_eq_true rfl)
  have KC7 : Keep h0 h7 [] := KC6.wr W7 (Or.inr sz_b1)
  have N7 := Fr.snoc X7 N6 gn_b1
  refine OGo.step st7 ?_
  show OGo _ _ _ _ _ _ _ (T7.setTop (mkF m 67 #[.val (.int p0), .val (.int p1), .val (.int p2), .val (.int (own_c0 p0)), .val (.int (own_c1 p0)), .val (.int (own_c2 p0)), .val (.int (own_c3 p0)), .val (.ref b1), .unset, .unset, .unset, .unset, .unset, .unset] []))
  refine OGo.step (F' := T7.setTop (mkF m 73 #[.val (.int p0), .val (.int p1), .val (.int p2), .val (.int (own_c0 p0)), .val (.int (own_c1 p0)), .val (.int (own_c2 p0)), .val (.int (own_c3 p0)), .val (.ref b1), .unset, .unset, .unset, .unset, .unset, .unset] [(.int (own_ch (own_c3 p0))), (.int (3 : Int32)), (.ref b1)])) (fun t kt => ?_) ?_
  · show Steps p.tables e below (T7.setTop (mkF m 67 #[.val (.int p0), .val (.int p1), .val (.int p2), .val (.int (own_c0 p0)), .val (.int (own_c1 p0)), .val (.int (own_c2 p0)), .val (.int (own_c3 p0)), .val (.ref b1), .unset, .unset, .unset, .unset, .unset, .unset] [])) t
    refine XS.aload X7.here hx rfl (hb hby at_67) rfl rfl ?_
    refine XS.iconst X7.here hx rfl (hb hby at_69) ?_
    refine XS.iload X7.here hx rfl (hb hby at_70) rfl ?_
    refine XS.i2c X7.here hx rfl (hb hby at_72) rfl ?_
    exact kt
  refine OGo.callS X7 hx hZ (y := (⟨"java/lang/String", "valueOf", "(C)Ljava/lang/String;"⟩ : MethodName)) hown (own_wd hw 2 rfl) (own_wd hw 3 rfl) (own_wd hw 4 rfl) (own_wd hw 5 rfl) (by decide) (rm1 l Z az hw [] (own_ch (own_c3 p0)) w_COMPACT_STRINGS h7 n0 (Nat.le_trans Z0 KC7.1) (own_c255 _ (own_r3 _)) hC ((own_stakeep ((own_stakeep ((own_stakeep (S_String_COMPACT_STRINGS.ext E1) K2 all0).wr W3) K4 all0).wr W5) K6 all0).wr W7)) (W := 2) (by decide) (by decide) (g := (mkF m 73 #[.val (.int p0), .val (.int p1), .val (.int p2), .val (.int (own_c0 p0)), .val (.int (own_c1 p0)), .val (.int (own_c2 p0)), .val (.int (own_c3 p0)), .val (.ref b1), .unset, .unset, .unset, .unset, .unset, .unset] [(.int (own_ch (own_c3 p0))), (.int (3 : Int32)), (.ref b1)])) rfl (by rw [hml]; rfl) (argsL := [(.int (own_ch (own_c3 p0)))]) (rest := [(.int (3 : Int32)), (.ref b1)]) (lenOf pd_0_0 rfl) rfl (by show 2 * 0 + _ ≤ _; exact Nat.le_of_eq rfl) (hb hby at_73) rfl e7 (by decide) (by decide) ?_
  rintro _ T8 L8 X8 ⟨b8_r, b8_t, rfl, Nq8, K8, sz_b8_r, sz_b8_t, P8_0, P8_1, P8_2, P8_3⟩
  have KC8 : Keep h0 T8.heap [] := KC7.trans K8 all0
  have szo_b8_r := sz_b8_r
  replace sz_b8_r : h0.size ≤ b8_r := Nat.le_trans KC7.1 sz_b8_r
  have gn_b8_r : n0 ≤ b8_r := Nat.le_trans Z0 sz_b8_r
  have szo_b8_t := sz_b8_t
  replace sz_b8_t : h0.size ≤ b8_t := Nat.le_trans KC7.1 sz_b8_t
  have gn_b8_t : n0 ≤ b8_t := Nat.le_trans Z0 sz_b8_t
  have N8 := Fr.app N7 Nq8
  show OGo _ _ _ _ _ _ _ (T8.setTop (mkF m 76 #[.val (.int p0), .val (.int p1), .val (.int p2), .val (.int (own_c0 p0)), .val (.int (own_c1 p0)), .val (.int (own_c2 p0)), .val (.int (own_c3 p0)), .val (.ref b1), .unset, .unset, .unset, .unset, .unset, .unset] [(.ref b8_r), (.int (3 : Int32)), (.ref b1)]))
  obtain ⟨cl9, Ar9, q9, S9, N9a, H9, G9⟩ := id ((V7.keep K8 nin0))
  have hin9 : ¬ ((3 : Int32) < 0 ∨ cl9.slots.size ≤ ((3 : Int32)).toNatClampNeg) := inb_of S9 ⟨by decide, by decide⟩
  obtain ⟨T9, h9, X9, e9, W9, st9⟩ := stR X8 hx hZ rfl Ar9 (j := (3 : Int32)) hin9 rfl (Sto.ofV Ar9 q9 O1 (Ins.self P8_0)) (g := (mkF m 76 #[.val (.int p0), .val (.int p1), .val (.int p2), .val (.int (own_c0 p0)), .val (.int (own_c1 p0)), .val (.int (own_c2 p0)), .val (.int (own_c3 p0)), .val (.ref b1), .unset, .unset, .unset, .unset, .unset, .unset] [(.ref b8_r), (.int (3 : Int32)), (.ref b1)])) rfl rfl (hb hby at_76)
  have V9 : Arv Z h9 b1 k1 (.object "java/lang/String") (4 : Int32) [(.ref b2_r), (.ref b4_r), (.ref b6_r), (.ref b8_r)] .null := Arv.set Ar9 q9 S9 N9a H9 G9 rfl W9 3 rfl (Nat.le_of_ble_eq_true rfl)
  have KC9 : Keep h0 h9 [] := KC8.wr W9 (Or.inr sz_b1)
  have N9 := Fr.snoc X9 N8 gn_b1
  refine OGo.step st9 ?_
  show OGo _ _ _ _ _ _ _ (T9.setTop (mkF m 77 #[.val (.int p0), .val (.int p1), .val (.int p2), .val (.int (own_c0 p0)), .val (.int (own_c1 p0)), .val (.int (own_c2 p0)), .val (.int (own_c3 p0)), .val (.ref b1), .unset, .unset, .unset, .unset, .unset, .unset] []))
  have Z10_1 : Sta Z h9 "java/lang/Integer$IntegerCache" "high" "I" (.int w_high) := ((own_stakeep ((own_stakeep ((own_stakeep ((own_stakeep (S_high.ext E1) K2 all0).wr W3) K4 all0).wr W5) K6 all0).wr W7) K8 all0).wr W9)
  have Z10_2 : Sta Z h9 "java/lang/Integer$IntegerCache" "cache" "[Ljava/lang/Integer;" (.ref w_cache) := ((own_stakeep ((own_stakeep ((own_stakeep ((own_stakeep (S_cache.ext E1) K2 all0).wr W3) K4 all0).wr W5) K6 all0).wr W7) K8 all0).wr W9)
  have Z10_3 : OCache Z h9 w_cache := (((((((((Ca.ext E1).keep K2 nin0).other W3 (Nat.ne_of_lt (Nat.lt_of_lt_of_le Ca.lt (Nat.le_of_eq g1.symm)))).keep K4 nin0).other W5 (Nat.ne_of_lt (Nat.lt_of_lt_of_le Ca.lt (Nat.le_of_eq g1.symm)))).keep K6 nin0).other W7 (Nat.ne_of_lt (Nat.lt_of_lt_of_le Ca.lt (Nat.le_of_eq g1.symm)))).keep K8 nin0).other W9 (Nat.ne_of_lt (Nat.lt_of_lt_of_le Ca.lt (Nat.le_of_eq g1.symm))))
  have Z10_4 : Sta Z h9 "java/lang/String" "COMPACT_STRINGS" "Z" (.int w_COMPACT_STRINGS) := ((own_stakeep ((own_stakeep ((own_stakeep ((own_stakeep (S_String_COMPACT_STRINGS.ext E1) K2 all0).wr W3) K4 all0).wr W5) K6 all0).wr W7) K8 all0).wr W9)
  have Z10_5 : Exa Z h9 b2_r "java/lang/String" := (((((((P2_0.wr W3).keep K4).wr W5).keep K6).wr W7).keep K8).wr W9)
  have Z10_6 : Fld Z h9 b2_r "java/lang/String" "value" "[B" (.ref b2_t) := (((((((P2_1.other W3 (Or.inl (Ne.symm (Nat.ne_of_lt (Nat.lt_of_lt_of_le V1.lt szo_b2_r))))).keep K4 nin0).other W5 (Or.inl (Ne.symm (Nat.ne_of_lt (Nat.lt_of_lt_of_le V1.lt szo_b2_r))))).keep K6 nin0).other W7 (Or.inl (Ne.symm (Nat.ne_of_lt (Nat.lt_of_lt_of_le V1.lt szo_b2_r))))).keep K8 nin0).other W9 (Or.inl (Ne.symm (Nat.ne_of_lt (Nat.lt_of_lt_of_le V1.lt szo_b2_r)))))
  have Z10_7 : Fld Z h9 b2_r "java/lang/String" "coder" "B" (.int (0 : Int32)) := (((((((P2_2.other W3 (Or.inl (Ne.symm (Nat.ne_of_lt (Nat.lt_of_lt_of_le V1.lt szo_b2_r))))).keep K4 nin0).other W5 (Or.inl (Ne.symm (Nat.ne_of_lt (Nat.lt_of_lt_of_le V1.lt szo_b2_r))))).keep K6 nin0).other W7 (Or.inl (Ne.symm (Nat.ne_of_lt (Nat.lt_of_lt_of_le V1.lt szo_b2_r))))).keep K8 nin0).other W9 (Or.inl (Ne.symm (Nat.ne_of_lt (Nat.lt_of_lt_of_le V1.lt szo_b2_r)))))
  have Z10_8 : OBy Z h9 b2_t (own_by (own_ch (own_c0 p0))) := (((((((P2_3.other W3 (Ne.symm (Nat.ne_of_lt (Nat.lt_of_lt_of_le V1.lt szo_b2_t)))).keep K4 nin0).other W5 (Ne.symm (Nat.ne_of_lt (Nat.lt_of_lt_of_le V1.lt szo_b2_t)))).keep K6 nin0).other W7 (Ne.symm (Nat.ne_of_lt (Nat.lt_of_lt_of_le V1.lt szo_b2_t)))).keep K8 nin0).other W9 (Ne.symm (Nat.ne_of_lt (Nat.lt_of_lt_of_le V1.lt szo_b2_t))))
  have Z10_9 : Exa Z h9 b4_r "java/lang/String" := (((((P4_0.wr W5).keep K6).wr W7).keep K8).wr W9)
  have Z10_10 : Fld Z h9 b4_r "java/lang/String" "value" "[B" (.ref b4_t) := (((((P4_1.other W5 (Or.inl (Ne.symm (Nat.ne_of_lt (Nat.lt_of_lt_of_le V3.lt szo_b4_r))))).keep K6 nin0).other W7 (Or.inl (Ne.symm (Nat.ne_of_lt (Nat.lt_of_lt_of_le V3.lt szo_b4_r))))).keep K8 nin0).other W9 (Or.inl (Ne.symm (Nat.ne_of_lt (Nat.lt_of_lt_of_le V3.lt szo_b4_r)))))
  have Z10_11 : Fld Z h9 b4_r "java/lang/String" "coder" "B" (.int (0 : Int32)) := (((((P4_2.other W5 (Or.inl (Ne.symm (Nat.ne_of_lt (Nat.lt_of_lt_of_le V3.lt szo_b4_r))))).keep K6 nin0).other W7 (Or.inl (Ne.symm (Nat.ne_of_lt (Nat.lt_of_lt_of_le V3.lt szo_b4_r))))).keep K8 nin0).other W9 (Or.inl (Ne.symm (Nat.ne_of_lt (Nat.lt_of_lt_of_le V3.lt szo_b4_r)))))
  have Z10_12 : OBy Z h9 b4_t (own_by (own_ch (own_c1 p0))) := (((((P4_3.other W5 (Ne.symm (Nat.ne_of_lt (Nat.lt_of_lt_of_le V3.lt szo_b4_t)))).keep K6 nin0).other W7 (Ne.symm (Nat.ne_of_lt (Nat.lt_of_lt_of_le V3.lt szo_b4_t)))).keep K8 nin0).other W9 (Ne.symm (Nat.ne_of_lt (Nat.lt_of_lt_of_le V3.lt szo_b4_t))))
  have Z10_13 : Exa Z h9 b6_r "java/lang/String" := (((P6_0.wr W7).keep K8).wr W9)
  have Z10_14 : Fld Z h9 b6_r "java/lang/String" "value" "[B" (.ref b6_t) := (((P6_1.other W7 (Or.inl (Ne.symm (Nat.ne_of_lt (Nat.lt_of_lt_of_le V5.lt szo_b6_r))))).keep K8 nin0).other W9 (Or.inl (Ne.symm (Nat.ne_of_lt (Nat.lt_of_lt_of_le V5.lt szo_b6_r)))))
  have Z10_15 : Fld Z h9 b6_r "java/lang/String" "coder" "B" (.int (0 : Int32)) := (((P6_2.other W7 (Or.inl (Ne.symm (Nat.ne_of_lt (Nat.lt_of_lt_of_le V5.lt szo_b6_r))))).keep K8 nin0).other W9 (Or.inl (Ne.symm (Nat.ne_of_lt (Nat.lt_of_lt_of_le V5.lt szo_b6_r)))))
  have Z10_16 : OBy Z h9 b6_t (own_by (own_ch (own_c2 p0))) := (((P6_3.other W7 (Ne.symm (Nat.ne_of_lt (Nat.lt_of_lt_of_le V5.lt szo_b6_t)))).keep K8 nin0).other W9 (Ne.symm (Nat.ne_of_lt (Nat.lt_of_lt_of_le V5.lt szo_b6_t))))
  have Z10_17 : Exa Z h9 b8_r "java/lang/String" := (P8_0.wr W9)
  have Z10_18 : Fld Z h9 b8_r "java/lang/String" "value" "[B" (.ref b8_t) := (P8_1.other W9 (Or.inl (Ne.symm (Nat.ne_of_lt (Nat.lt_of_lt_of_le V7.lt szo_b8_r)))))
  have Z10_19 : Fld Z h9 b8_r "java/lang/String" "coder" "B" (.int (0 : Int32)) := (P8_2.other W9 (Or.inl (Ne.symm (Nat.ne_of_lt (Nat.lt_of_lt_of_le V7.lt szo_b8_r)))))
  have Z10_20 : OBy Z h9 b8_t (own_by (own_ch (own_c3 p0))) := (P8_3.other W9 (Ne.symm (Nat.ne_of_lt (Nat.lt_of_lt_of_le V7.lt szo_b8_t))))
  refine OGo.step (F' := T9.setTop (mkF m 94 #[.val (.int p0), .val (.int p1), .val (.int p2), .val (.int (own_c0 p0)), .val (.int (own_c1 p0)), .val (.int (own_c2 p0)), .val (.int (own_c3 p0)), .val (.ref b1), .val (.int (own_cn p2)), .val (.int (((p2.toUInt32 >>> ((3 : Int32) &&& 31).toUInt32).toInt32) &&& (3 : Int32))), .unset, .unset, .unset, .unset] [(.int (((p2.toUInt32 >>> ((3 : Int32) &&& 31).toUInt32).toInt32) &&& (3 : Int32)))])) (fun t kt => ?_) ?_
  · show Steps p.tables e below (T9.setTop (mkF m 77 #[.val (.int p0), .val (.int p1), .val (.int p2), .val (.int (own_c0 p0)), .val (.int (own_c1 p0)), .val (.int (own_c2 p0)), .val (.int (own_c3 p0)), .val (.ref b1), .unset, .unset, .unset, .unset, .unset, .unset] [])) t
    refine XS.iloadN X9.here hx rfl (hb hby at_77) rfl ?_
    refine XS.bipush X9.here hx rfl (hb hby at_78) ?_
    refine XS.iand X9.here hx rfl (hb hby at_80) rfl ?_
    refine XS.iconst X9.here hx rfl (hb hby at_81) ?_
    refine Jvm.RoadKit.iremM (g := (mkF m 82 #[.val (.int p0), .val (.int p1), .val (.int p2), .val (.int (own_c0 p0)), .val (.int (own_c1 p0)), .val (.int (own_c2 p0)), .val (.int (own_c3 p0)), .val (.ref b1), .unset, .unset, .unset, .unset, .unset, .unset] [(.int (5 : Int32)), (.int (p2 &&& (7 : Int32)))])) X9 hx rfl (hb hby at_82) rfl (by decide) ?_
    refine XS.istore X9.here hx rfl (hb hby at_83) rfl (l' := #[.val (.int p0), .val (.int p1), .val (.int p2), .val (.int (own_c0 p0)), .val (.int (own_c1 p0)), .val (.int (own_c2 p0)), .val (.int (own_c3 p0)), .val (.ref b1), .val (.int (own_cn p2)), .unset, .unset, .unset, .unset, .unset]) rfl ?_
    refine XS.iloadN X9.here hx rfl (hb hby at_85) rfl ?_
    refine XS.iconst X9.here hx rfl (hb hby at_86) ?_
    refine XS.iushr X9.here hx rfl (hb hby at_87) rfl ?_
    refine XS.iconst X9.here hx rfl (hb hby at_88) ?_
    refine XS.iand X9.here hx rfl (hb hby at_89) rfl ?_
    refine XS.istore X9.here hx rfl (hb hby at_90) rfl (l' := #[.val (.int p0), .val (.int p1), .val (.int p2), .val (.int (own_c0 p0)), .val (.int (own_c1 p0)), .val (.int (own_c2 p0)), .val (.int (own_c3 p0)), .val (.ref b1), .val (.int (own_cn p2)), .val (.int (((p2.toUInt32 >>> ((3 : Int32) &&& 31).toUInt32).toInt32) &&& (3 : Int32))), .unset, .unset, .unset, .unset]) rfl ?_
    refine XS.iload X9.here hx rfl (hb hby at_92) rfl ?_
    exact kt
  by_cases hc94 : (((p2.toUInt32 >>> ((3 : Int32) &&& 31).toUInt32).toInt32) &&& (3 : Int32)) = (0 : Int32)
  · refine OGo.step (F' := T9.setTop (mkF m 97 #[.val (.int p0), .val (.int p1), .val (.int p2), .val (.int (own_c0 p0)), .val (.int (own_c1 p0)), .val (.int (own_c2 p0)), .val (.int (own_c3 p0)), .val (.ref b1), .val (.int (own_cn p2)), .val (.int (((p2.toUInt32 >>> ((3 : Int32) &&& 31).toUInt32).toInt32) &&& (3 : Int32))), .unset, .unset, .unset, .unset] [])) (fun t kt => ?_) ?_
    · show Steps p.tables e below (T9.setTop (mkF m 94 #[.val (.int p0), .val (.int p1), .val (.int p2), .val (.int (own_c0 p0)), .val (.int (own_c1 p0)), .val (.int (own_c2 p0)), .val (.int (own_c3 p0)), .val (.ref b1), .val (.int (own_cn p2)), .val (.int (((p2.toUInt32 >>> ((3 : Int32) &&& 31).toUInt32).toInt32) &&& (3 : Int32))), .unset, .unset, .unset, .unset] [(.int (((p2.toUInt32 >>> ((3 : Int32) &&& 31).toUInt32).toInt32) &&& (3 : Int32)))])) t
      refine XS.ifNo X9.here hx rfl (hb hby at_94) rfl ((if0 _ _).trans (teq hc94).2) ?_
      exact kt
    refine OGo.step (F' := T9.setTop (mkF m 107 #[.val (.int p0), .val (.int p1), .val (.int p2), .val (.int (own_c0 p0)), .val (.int (own_c1 p0)), .val (.int (own_c2 p0)), .val (.int (own_c3 p0)), .val (.ref b1), .val (.int (own_cn p2)), .val (.int (((p2.toUInt32 >>> ((3 : Int32) &&& 31).toUInt32).toInt32) &&& (3 : Int32))), .unset, .val (.int (own_c0 p1)), .unset, .unset] [(.int (own_ch (own_c0 p1)))])) (fun t kt => ?_) ?_
    · show Steps p.tables e below (T9.setTop (mkF m 97 #[.val (.int p0), .val (.int p1), .val (.int p2), .val (.int (own_c0 p0)), .val (.int (own_c1 p0)), .val (.int (own_c2 p0)), .val (.int (own_c3 p0)), .val (.ref b1), .val (.int (own_cn p2)), .val (.int (((p2.toUInt32 >>> ((3 : Int32) &&& 31).toUInt32).toInt32) &&& (3 : Int32))), .unset, .unset, .unset, .unset] [])) t
      refine XS.iloadN X9.here hx rfl (hb hby at_97) rfl ?_
      refine XS.sipush X9.here hx rfl (hb hby at_98) ?_
      refine XS.iand X9.here hx rfl (hb hby at_101) rfl ?_
      refine XS.istore X9.here hx rfl (hb hby at_102) rfl (l' := #[.val (.int p0), .val (.int p1), .val (.int p2), .val (.int (own_c0 p0)), .val (.int (own_c1 p0)), .val (.int (own_c2 p0)), .val (.int (own_c3 p0)), .val (.ref b1), .val (.int (own_cn p2)), .val (.int (((p2.toUInt32 >>> ((3 : Int32) &&& 31).toUInt32).toInt32) &&& (3 : Int32))), .unset, .val (.int (own_c0 p1)), .unset, .unset]) rfl ?_
      refine XS.iload X9.here hx rfl (hb hby at_104) rfl ?_
      refine XS.i2c X9.here hx rfl (hb hby at_106) rfl ?_
      exact kt
    refine OGo.callS X9 hx hZ (y := (⟨"java/lang/String", "valueOf", "(C)Ljava/lang/String;"⟩ : MethodName)) hown (own_wd hw 2 rfl) (own_wd hw 3 rfl) (own_wd hw 4 rfl) (own_wd hw 5 rfl) (by decide) (rm1 l Z az hw [] (own_ch (own_c0 p1)) w_COMPACT_STRINGS h9 n0 (Nat.le_trans Z0 KC9.1) (own_c255 _ (own_r0 _)) hC Z10_4) (W := 0) (by decide) (by decide) (g := (mkF m 107 #[.val (.int p0), .val (.int p1), .val (.int p2), .val (.int (own_c0 p0)), .val (.int (own_c1 p0)), .val (.int (own_c2 p0)), .val (.int (own_c3 p0)), .val (.ref b1), .val (.int (own_cn p2)), .val (.int (((p2.toUInt32 >>> ((3 : Int32) &&& 31).toUInt32).toInt32) &&& (3 : Int32))), .unset, .val (.int (own_c0 p1)), .unset, .unset] [(.int (own_ch (own_c0 p1)))])) rfl (by rw [hml]; rfl) (argsL := [(.int (own_ch (own_c0 p1)))]) (rest := []) (lenOf pd_0_0 rfl) rfl (by show 2 * 0 + _ ≤ _; exact Nat.le_of_eq rfl) (hb hby at_107) rfl e9 (by decide) (by decide) ?_
    rintro _ T11 L11 X11 ⟨b11_r, b11_t, rfl, Nq11, K11, sz_b11_r, sz_b11_t, P11_0, P11_1, P11_2, P11_3⟩
    have KC11 : Keep h0 T11.heap [] := KC9.trans K11 all0
    have szo_b11_r := sz_b11_r
    replace sz_b11_r : h0.size ≤ b11_r := Nat.le_trans KC9.1 sz_b11_r
    have gn_b11_r : n0 ≤ b11_r := Nat.le_trans Z0 sz_b11_r
    have szo_b11_t := sz_b11_t
    replace sz_b11_t : h0.size ≤ b11_t := Nat.le_trans KC9.1 sz_b11_t
    have gn_b11_t : n0 ≤ b11_t := Nat.le_trans Z0 sz_b11_t
    have N11 := Fr.app N9 Nq11
    show OGo _ _ _ _ _ _ _ (T11.setTop (mkF m 110 #[.val (.int p0), .val (.int p1), .val (.int p2), .val (.int (own_c0 p0)), .val (.int (own_c1 p0)), .val (.int (own_c2 p0)), .val (.int (own_c3 p0)), .val (.ref b1), .val (.int (own_cn p2)), .val (.int (((p2.toUInt32 >>> ((3 : Int32) &&& 31).toUInt32).toInt32) &&& (3 : Int32))), .unset, .val (.int (own_c0 p1)), .unset, .unset] [(.ref b11_r)]))
    refine OGo.step (F' := T11.setTop (mkF m 217 #[.val (.int p0), .val (.int p1), .val (.int p2), .val (.int (own_c0 p0)), .val (.int (own_c1 p0)), .val (.int (own_c2 p0)), .val (.int (own_c3 p0)), .val (.ref b1), .val (.int (own_cn p2)), .val (.int (((p2.toUInt32 >>> ((3 : Int32) &&& 31).toUInt32).toInt32) &&& (3 : Int32))), .val (.ref b11_r), .val (.int (own_c0 p1)), .val (.int (1 : Int32)), .val (.int (-1 : Int32))] [(.int (own_cn p2))])) (fun t kt => ?_) ?_
    · show Steps p.tables e below (T11.setTop (mkF m 110 #[.val (.int p0), .val (.int p1), .val (.int p2), .val (.int (own_c0 p0)), .val (.int (own_c1 p0)), .val (.int (own_c2 p0)), .val (.int (own_c3 p0)), .val (.ref b1), .val (.int (own_cn p2)), .val (.int (((p2.toUInt32 >>> ((3 : Int32) &&& 31).toUInt32).toInt32) &&& (3 : Int32))), .unset, .val (.int (own_c0 p1)), .unset, .unset] [(.ref b11_r)])) t
      refine XS.astore X11.here hx rfl (hb hby at_110) rfl rfl (l' := #[.val (.int p0), .val (.int p1), .val (.int p2), .val (.int (own_c0 p0)), .val (.int (own_c1 p0)), .val (.int (own_c2 p0)), .val (.int (own_c3 p0)), .val (.ref b1), .val (.int (own_cn p2)), .val (.int (((p2.toUInt32 >>> ((3 : Int32) &&& 31).toUInt32).toInt32) &&& (3 : Int32))), .val (.ref b11_r), .val (.int (own_c0 p1)), .unset, .unset]) rfl ?_
      refine XS.iconst X11.here hx rfl (hb hby at_112) ?_
      refine XS.istore X11.here hx rfl (hb hby at_113) rfl (l' := #[.val (.int p0), .val (.int p1), .val (.int p2), .val (.int (own_c0 p0)), .val (.int (own_c1 p0)), .val (.int (own_c2 p0)), .val (.int (own_c3 p0)), .val (.ref b1), .val (.int (own_cn p2)), .val (.int (((p2.toUInt32 >>> ((3 : Int32) &&& 31).toUInt32).toInt32) &&& (3 : Int32))), .val (.ref b11_r), .val (.int (own_c0 p1)), .val (.int (1 : Int32)), .unset]) rfl ?_
      refine XS.goto X11.here hx rfl (pc0 := 115) (pc' := 207) rfl (hb hby at_115) (by decide) (by decide) ?_
      refine XS.iconst X11.here hx rfl (hb hby at_207) ?_
      refine XS.istore X11.here hx rfl (hb hby at_208) rfl (l' := #[.val (.int p0), .val (.int p1), .val (.int p2), .val (.int (own_c0 p0)), .val (.int (own_c1 p0)), .val (.int (own_c2 p0)), .val (.int (own_c3 p0)), .val (.ref b1), .val (.int (own_cn p2)), .val (.int (((p2.toUInt32 >>> ((3 : Int32) &&& 31).toUInt32).toInt32) &&& (3 : Int32))), .val (.ref b11_r), .val (.int (own_c0 p1)), .val (.int (1 : Int32)), .val (.int (-1 : Int32))]) rfl ?_
      refine XS.iload X11.here hx rfl (hb hby at_210) rfl ?_
      refine XS.ifNo X11.here hx rfl (hb hby at_212) rfl ((if0 _ _).trans (feq (by decide : ¬ ((1 : Int32) = (0 : Int32)))).1) ?_
      refine XS.iload X11.here hx rfl (hb hby at_215) rfl ?_
      exact kt
    by_cases hc217 : (0 : Int32) < (own_cn p2)
    · refine OGo.step (F' := T11.setTop (mkF m 220 #[.val (.int p0), .val (.int p1), .val (.int p2), .val (.int (own_c0 p0)), .val (.int (own_c1 p0)), .val (.int (own_c2 p0)), .val (.int (own_c3 p0)), .val (.ref b1), .val (.int (own_cn p2)), .val (.int (((p2.toUInt32 >>> ((3 : Int32) &&& 31).toUInt32).toInt32) &&& (3 : Int32))), .val (.ref b11_r), .val (.int (own_c0 p1)), .val (.int (1 : Int32)), .val (.int (-1 : Int32))] [])) (fun t kt => ?_) ?_
      · show Steps p.tables e below (T11.setTop (mkF m 217 #[.val (.int p0), .val (.int p1), .val (.int p2), .val (.int (own_c0 p0)), .val (.int (own_c1 p0)), .val (.int (own_c2 p0)), .val (.int (own_c3 p0)), .val (.ref b1), .val (.int (own_cn p2)), .val (.int (((p2.toUInt32 >>> ((3 : Int32) &&& 31).toUInt32).toInt32) &&& (3 : Int32))), .val (.ref b11_r), .val (.int (own_c0 p1)), .val (.int (1 : Int32)), .val (.int (-1 : Int32))] [(.int (own_cn p2))])) t
        refine XS.ifNo X11.here hx rfl (hb hby at_217) rfl ((if0 _ _).trans (tlt hc217).2.2.2) ?_
        exact kt
      refine OGo.step (F' := T11.setTop (mkF m 223 #[.val (.int p0), .val (.int p1), .val (.int p2), .val (.int (own_c0 p0)), .val (.int (own_c1 p0)), .val (.int (own_c2 p0)), .val (.int (own_c3 p0)), .val (.ref b1), .val (.int (own_cn p2)), .val (.int (((p2.toUInt32 >>> ((3 : Int32) &&& 31).toUInt32).toInt32) &&& (3 : Int32))), .val (.ref b11_r), .val (.int (own_c0 p1)), .val (.int (1 : Int32)), .val (.int (-1 : Int32))] [(.int (own_c0 p1)), (.int (own_c0 p0))])) (fun t kt => ?_) ?_
      · show Steps p.tables e below (T11.setTop (mkF m 220 #[.val (.int p0), .val (.int p1), .val (.int p2), .val (.int (own_c0 p0)), .val (.int (own_c1 p0)), .val (.int (own_c2 p0)), .val (.int (own_c3 p0)), .val (.ref b1), .val (.int (own_cn p2)), .val (.int (((p2.toUInt32 >>> ((3 : Int32) &&& 31).toUInt32).toInt32) &&& (3 : Int32))), .val (.ref b11_r), .val (.int (own_c0 p1)), .val (.int (1 : Int32)), .val (.int (-1 : Int32))] [])) t
        refine XS.iloadN X11.here hx rfl (hb hby at_220) rfl ?_
        refine XS.iload X11.here hx rfl (hb hby at_221) rfl ?_
        exact kt
      by_cases hc223 : (own_c0 p0) = (own_c0 p1)
      · refine OGo.step (F' := T11.setTop (mkF m 226 #[.val (.int p0), .val (.int p1), .val (.int p2), .val (.int (own_c0 p0)), .val (.int (own_c1 p0)), .val (.int (own_c2 p0)), .val (.int (own_c3 p0)), .val (.ref b1), .val (.int (own_cn p2)), .val (.int (((p2.toUInt32 >>> ((3 : Int32) &&& 31).toUInt32).toInt32) &&& (3 : Int32))), .val (.ref b11_r), .val (.int (own_c0 p1)), .val (.int (1 : Int32)), .val (.int (-1 : Int32))] [])) (fun t kt => ?_) ?_
        · show Steps p.tables e below (T11.setTop (mkF m 223 #[.val (.int p0), .val (.int p1), .val (.int p2), .val (.int (own_c0 p0)), .val (.int (own_c1 p0)), .val (.int (own_c2 p0)), .val (.int (own_c3 p0)), .val (.ref b1), .val (.int (own_cn p2)), .val (.int (((p2.toUInt32 >>> ((3 : Int32) &&& 31).toUInt32).toInt32) &&& (3 : Int32))), .val (.ref b11_r), .val (.int (own_c0 p1)), .val (.int (1 : Int32)), .val (.int (-1 : Int32))] [(.int (own_c0 p1)), (.int (own_c0 p0))])) t
          refine XS.icmpNo X11.here hx rfl (hb hby at_223) rfl (teq hc223).2 ?_
          exact kt
        refine OGo.step (F' := T11.setTop (mkF m 292 #[.val (.int p0), .val (.int p1), .val (.int p2), .val (.int (own_c0 p0)), .val (.int (own_c1 p0)), .val (.int (own_c2 p0)), .val (.int (own_c3 p0)), .val (.ref b1), .val (.int (own_cn p2)), .val (.int (((p2.toUInt32 >>> ((3 : Int32) &&& 31).toUInt32).toInt32) &&& (3 : Int32))), .val (.ref b11_r), .val (.int (own_c0 p1)), .val (.int (1 : Int32)), .val (.int (0 : Int32))] [(.ref b11_r), (.int (own_cn p2)), (.ref b1)])) (fun t kt => ?_) ?_
        · show Steps p.tables e below (T11.setTop (mkF m 226 #[.val (.int p0), .val (.int p1), .val (.int p2), .val (.int (own_c0 p0)), .val (.int (own_c1 p0)), .val (.int (own_c2 p0)), .val (.int (own_c3 p0)), .val (.ref b1), .val (.int (own_cn p2)), .val (.int (((p2.toUInt32 >>> ((3 : Int32) &&& 31).toUInt32).toInt32) &&& (3 : Int32))), .val (.ref b11_r), .val (.int (own_c0 p1)), .val (.int (1 : Int32)), .val (.int (-1 : Int32))] [])) t
          refine XS.iconst X11.here hx rfl (hb hby at_226) ?_
          refine XS.istore X11.here hx rfl (hb hby at_227) rfl (l' := #[.val (.int p0), .val (.int p1), .val (.int p2), .val (.int (own_c0 p0)), .val (.int (own_c1 p0)), .val (.int (own_c2 p0)), .val (.int (own_c3 p0)), .val (.ref b1), .val (.int (own_cn p2)), .val (.int (((p2.toUInt32 >>> ((3 : Int32) &&& 31).toUInt32).toInt32) &&& (3 : Int32))), .val (.ref b11_r), .val (.int (own_c0 p1)), .val (.int (1 : Int32)), .val (.int (0 : Int32))]) rfl ?_
          refine XS.goto X11.here hx rfl (pc0 := 229) (pc' := 286) rfl (hb hby at_229) (by decide) (by decide) ?_
          refine XS.aload X11.here hx rfl (hb hby at_286) rfl rfl ?_
          refine XS.iload X11.here hx rfl (hb hby at_288) rfl ?_
          refine XS.aload X11.here hx rfl (hb hby at_290) rfl rfl ?_
          exact kt
        refine OGo.callS X11 hx hZ (y := (⟨"com/example/kette/kette/JsonObject", "walk", "([Ljava/lang/String;ILjava/lang/Object;)I"⟩ : MethodName)) hown (own_wd hw 28 rfl) (own_wd hw 29 rfl) (own_wd hw 30 rfl) (own_wd hw 31 rfl) (by decide) (rm6 l Z az hw [] b1 (own_cn p2) b11_r k1 b2_r b4_r b6_r b8_r b2_t b4_t b6_t b8_t (own_by (own_ch (own_c0 p0))) (own_by (own_ch (own_c1 p0))) (own_by (own_ch (own_c2 p0))) (own_by (own_ch (own_c3 p0))) b11_t (own_by (own_ch (own_c0 p1))) w_COMPACT_STRINGS T11.heap n0 (Nat.le_trans Z0 KC11.1) (V9.keep K11 nin0) (Z10_5.keep K11) (Z10_6.keep K11 nin0) (Z10_7.keep K11 nin0) (Z10_8.keep K11 nin0) (Z10_9.keep K11) (Z10_10.keep K11 nin0) (Z10_11.keep K11 nin0) (Z10_12.keep K11 nin0) (Z10_13.keep K11) (Z10_14.keep K11 nin0) (Z10_15.keep K11 nin0) (Z10_16.keep K11 nin0) (Z10_17.keep K11) (Z10_18.keep K11 nin0) (Z10_19.keep K11 nin0) (Z10_20.keep K11 nin0) P11_0 P11_1 P11_2 P11_3 hC (own_cnt _) (own_stakeep Z10_4 K11 all0)) (W := 0) (by decide) (by decide) (g := (mkF m 292 #[.val (.int p0), .val (.int p1), .val (.int p2), .val (.int (own_c0 p0)), .val (.int (own_c1 p0)), .val (.int (own_c2 p0)), .val (.int (own_c3 p0)), .val (.ref b1), .val (.int (own_cn p2)), .val (.int (((p2.toUInt32 >>> ((3 : Int32) &&& 31).toUInt32).toInt32) &&& (3 : Int32))), .val (.ref b11_r), .val (.int (own_c0 p1)), .val (.int (1 : Int32)), .val (.int (0 : Int32))] [(.ref b11_r), (.int (own_cn p2)), (.ref b1)])) rfl (by rw [hml]; rfl) (argsL := [(.ref b1), (.int (own_cn p2)), (.ref b11_r)]) (rest := []) (lenOf pd_0_1 rfl) rfl (by show 2 * 0 + _ ≤ _; exact Nat.le_of_eq rfl) (hb hby at_292) rfl rfl (by decide) (by decide) ?_
        rintro _ T12 L12 X12 ⟨rfl, Nq12, e12⟩
        have N12 := Fr.app N11 Nq12
        show OGo _ _ _ _ _ _ _ (T12.setTop (mkF m 295 #[.val (.int p0), .val (.int p1), .val (.int p2), .val (.int (own_c0 p0)), .val (.int (own_c1 p0)), .val (.int (own_c2 p0)), .val (.int (own_c3 p0)), .val (.ref b1), .val (.int (own_cn p2)), .val (.int (((p2.toUInt32 >>> ((3 : Int32) &&& 31).toUInt32).toInt32) &&& (3 : Int32))), .val (.ref b11_r), .val (.int (own_c0 p1)), .val (.int (1 : Int32)), .val (.int (0 : Int32))] [(.int (f6 (own_cn p2) b11_r b2_r b4_r b6_r b8_r (own_by (own_ch (own_c0 p0))) (own_by (own_ch (own_c1 p0))) (own_by (own_ch (own_c2 p0))) (own_by (own_ch (own_c3 p0))) (own_by (own_ch (own_c0 p1)))))]))
        refine OGo.step (F' := T12.setTop (mkF m 305 #[.val (.int p0), .val (.int p1), .val (.int p2), .val (.int (own_c0 p0)), .val (.int (own_c1 p0)), .val (.int (own_c2 p0)), .val (.int (own_c3 p0)), .val (.ref b1), .val (.int (own_cn p2)), .val (.int (((p2.toUInt32 >>> ((3 : Int32) &&& 31).toUInt32).toInt32) &&& (3 : Int32))), .val (.ref b11_r), .val (.int (own_c0 p1)), .val (.int (1 : Int32)), .val (.int (0 : Int32))] [(.int (1 : Int32))])) (fun t kt => ?_) ?_
        · show Steps p.tables e below (T12.setTop (mkF m 295 #[.val (.int p0), .val (.int p1), .val (.int p2), .val (.int (own_c0 p0)), .val (.int (own_c1 p0)), .val (.int (own_c2 p0)), .val (.int (own_c3 p0)), .val (.ref b1), .val (.int (own_cn p2)), .val (.int (((p2.toUInt32 >>> ((3 : Int32) &&& 31).toUInt32).toInt32) &&& (3 : Int32))), .val (.ref b11_r), .val (.int (own_c0 p1)), .val (.int (1 : Int32)), .val (.int (0 : Int32))] [(.int (f6 (own_cn p2) b11_r b2_r b4_r b6_r b8_r (own_by (own_ch (own_c0 p0))) (own_by (own_ch (own_c1 p0))) (own_by (own_ch (own_c2 p0))) (own_by (own_ch (own_c3 p0))) (own_by (own_ch (own_c0 p1)))))])) t
          refine XS.iload X12.here hx rfl (hb hby at_295) rfl ?_
          refine XS.icmpNo X12.here hx rfl (hb hby at_297) rfl (teq (by rw [own_fin _ (own_c0 p0) (own_c1 p0) (own_c2 p0) (own_c3 p0) (own_c0 p1) _ _ _ _ _ _ _ _ _ _ (own_e _ _ _ _ (own_r0 _) (own_r0 _) (fun q => absurd q (Nat.ne_of_lt (Nat.lt_of_lt_of_le Z10_5.lt szo_b11_r)))) (own_e _ _ _ _ (own_r1 _) (own_r0 _) (fun q => absurd q (Nat.ne_of_lt (Nat.lt_of_lt_of_le Z10_9.lt szo_b11_r)))) (own_e _ _ _ _ (own_r2 _) (own_r0 _) (fun q => absurd q (Nat.ne_of_lt (Nat.lt_of_lt_of_le Z10_13.lt szo_b11_r)))) (own_e _ _ _ _ (own_r3 _) (own_r0 _) (fun q => absurd q (Nat.ne_of_lt (Nat.lt_of_lt_of_le Z10_17.lt szo_b11_r)))) (own_cnt _), own_exp, if_pos ⟨hc217, hc223⟩])).2 ?_
          refine XS.iconst X12.here hx rfl (hb hby at_300) ?_
          refine XS.goto X12.here hx rfl (pc0 := 301) (pc' := 305) rfl (hb hby at_301) (by decide) (by decide) ?_
          exact kt
        refine OGo.retZ X12 hx hlk (t := .boolean) (z' := (1 : Int32)) hret (by simp) (hb hby at_305) rfl ?_ (by decide) (by decide)
        show Q0 Z p0 p1 p2 w_high w_cache w_COMPACT_STRINGS h0 n0 _ T12.heap _
        rw [e12]
        exact ⟨rfl, N12, KC11⟩
      · refine OGo.step (F' := T11.setTop (mkF m 232 #[.val (.int p0), .val (.int p1), .val (.int p2), .val (.int (own_c0 p0)), .val (.int (own_c1 p0)), .val (.int (own_c2 p0)), .val (.int (own_c3 p0)), .val (.ref b1), .val (.int (own_cn p2)), .val (.int (((p2.toUInt32 >>> ((3 : Int32) &&& 31).toUInt32).toInt32) &&& (3 : Int32))), .val (.ref b11_r), .val (.int (own_c0 p1)), .val (.int (1 : Int32)), .val (.int (-1 : Int32))] [])) (fun t kt => ?_) ?_
        · show Steps p.tables e below (T11.setTop (mkF m 223 #[.val (.int p0), .val (.int p1), .val (.int p2), .val (.int (own_c0 p0)), .val (.int (own_c1 p0)), .val (.int (own_c2 p0)), .val (.int (own_c3 p0)), .val (.ref b1), .val (.int (own_cn p2)), .val (.int (((p2.toUInt32 >>> ((3 : Int32) &&& 31).toUInt32).toInt32) &&& (3 : Int32))), .val (.ref b11_r), .val (.int (own_c0 p1)), .val (.int (1 : Int32)), .val (.int (-1 : Int32))] [(.int (own_c0 p1)), (.int (own_c0 p0))])) t
          refine XS.icmpYes X11.here hx rfl (pc0 := 223) (pc' := 232) rfl (hb hby at_223) rfl (feq hc223).2 (by decide) (by decide) ?_
          exact kt
        refine OGo.step (F' := T11.setTop (mkF m 235 #[.val (.int p0), .val (.int p1), .val (.int p2), .val (.int (own_c0 p0)), .val (.int (own_c1 p0)), .val (.int (own_c2 p0)), .val (.int (own_c3 p0)), .val (.ref b1), .val (.int (own_cn p2)), .val (.int (((p2.toUInt32 >>> ((3 : Int32) &&& 31).toUInt32).toInt32) &&& (3 : Int32))), .val (.ref b11_r), .val (.int (own_c0 p1)), .val (.int (1 : Int32)), .val (.int (-1 : Int32))] [(.int (1 : Int32)), (.int (own_cn p2))])) (fun t kt => ?_) ?_
        · show Steps p.tables e below (T11.setTop (mkF m 232 #[.val (.int p0), .val (.int p1), .val (.int p2), .val (.int (own_c0 p0)), .val (.int (own_c1 p0)), .val (.int (own_c2 p0)), .val (.int (own_c3 p0)), .val (.ref b1), .val (.int (own_cn p2)), .val (.int (((p2.toUInt32 >>> ((3 : Int32) &&& 31).toUInt32).toInt32) &&& (3 : Int32))), .val (.ref b11_r), .val (.int (own_c0 p1)), .val (.int (1 : Int32)), .val (.int (-1 : Int32))] [])) t
          refine XS.iload X11.here hx rfl (hb hby at_232) rfl ?_
          refine XS.iconst X11.here hx rfl (hb hby at_234) ?_
          exact kt
        by_cases hc235 : (1 : Int32) < (own_cn p2)
        · refine OGo.step (F' := T11.setTop (mkF m 238 #[.val (.int p0), .val (.int p1), .val (.int p2), .val (.int (own_c0 p0)), .val (.int (own_c1 p0)), .val (.int (own_c2 p0)), .val (.int (own_c3 p0)), .val (.ref b1), .val (.int (own_cn p2)), .val (.int (((p2.toUInt32 >>> ((3 : Int32) &&& 31).toUInt32).toInt32) &&& (3 : Int32))), .val (.ref b11_r), .val (.int (own_c0 p1)), .val (.int (1 : Int32)), .val (.int (-1 : Int32))] [])) (fun t kt => ?_) ?_
          · show Steps p.tables e below (T11.setTop (mkF m 235 #[.val (.int p0), .val (.int p1), .val (.int p2), .val (.int (own_c0 p0)), .val (.int (own_c1 p0)), .val (.int (own_c2 p0)), .val (.int (own_c3 p0)), .val (.ref b1), .val (.int (own_cn p2)), .val (.int (((p2.toUInt32 >>> ((3 : Int32) &&& 31).toUInt32).toInt32) &&& (3 : Int32))), .val (.ref b11_r), .val (.int (own_c0 p1)), .val (.int (1 : Int32)), .val (.int (-1 : Int32))] [(.int (1 : Int32)), (.int (own_cn p2))])) t
            refine XS.icmpNo X11.here hx rfl (hb hby at_235) rfl (tlt hc235).2.2.2 ?_
            exact kt
          refine OGo.step (F' := T11.setTop (mkF m 242 #[.val (.int p0), .val (.int p1), .val (.int p2), .val (.int (own_c0 p0)), .val (.int (own_c1 p0)), .val (.int (own_c2 p0)), .val (.int (own_c3 p0)), .val (.ref b1), .val (.int (own_cn p2)), .val (.int (((p2.toUInt32 >>> ((3 : Int32) &&& 31).toUInt32).toInt32) &&& (3 : Int32))), .val (.ref b11_r), .val (.int (own_c0 p1)), .val (.int (1 : Int32)), .val (.int (-1 : Int32))] [(.int (own_c0 p1)), (.int (own_c1 p0))])) (fun t kt => ?_) ?_
          · show Steps p.tables e below (T11.setTop (mkF m 238 #[.val (.int p0), .val (.int p1), .val (.int p2), .val (.int (own_c0 p0)), .val (.int (own_c1 p0)), .val (.int (own_c2 p0)), .val (.int (own_c3 p0)), .val (.ref b1), .val (.int (own_cn p2)), .val (.int (((p2.toUInt32 >>> ((3 : Int32) &&& 31).toUInt32).toInt32) &&& (3 : Int32))), .val (.ref b11_r), .val (.int (own_c0 p1)), .val (.int (1 : Int32)), .val (.int (-1 : Int32))] [])) t
            refine XS.iload X11.here hx rfl (hb hby at_238) rfl ?_
            refine XS.iload X11.here hx rfl (hb hby at_240) rfl ?_
            exact kt
          by_cases hc242 : (own_c1 p0) = (own_c0 p1)
          · refine OGo.step (F' := T11.setTop (mkF m 245 #[.val (.int p0), .val (.int p1), .val (.int p2), .val (.int (own_c0 p0)), .val (.int (own_c1 p0)), .val (.int (own_c2 p0)), .val (.int (own_c3 p0)), .val (.ref b1), .val (.int (own_cn p2)), .val (.int (((p2.toUInt32 >>> ((3 : Int32) &&& 31).toUInt32).toInt32) &&& (3 : Int32))), .val (.ref b11_r), .val (.int (own_c0 p1)), .val (.int (1 : Int32)), .val (.int (-1 : Int32))] [])) (fun t kt => ?_) ?_
            · show Steps p.tables e below (T11.setTop (mkF m 242 #[.val (.int p0), .val (.int p1), .val (.int p2), .val (.int (own_c0 p0)), .val (.int (own_c1 p0)), .val (.int (own_c2 p0)), .val (.int (own_c3 p0)), .val (.ref b1), .val (.int (own_cn p2)), .val (.int (((p2.toUInt32 >>> ((3 : Int32) &&& 31).toUInt32).toInt32) &&& (3 : Int32))), .val (.ref b11_r), .val (.int (own_c0 p1)), .val (.int (1 : Int32)), .val (.int (-1 : Int32))] [(.int (own_c0 p1)), (.int (own_c1 p0))])) t
              refine XS.icmpNo X11.here hx rfl (hb hby at_242) rfl (teq hc242).2 ?_
              exact kt
            refine OGo.step (F' := T11.setTop (mkF m 292 #[.val (.int p0), .val (.int p1), .val (.int p2), .val (.int (own_c0 p0)), .val (.int (own_c1 p0)), .val (.int (own_c2 p0)), .val (.int (own_c3 p0)), .val (.ref b1), .val (.int (own_cn p2)), .val (.int (((p2.toUInt32 >>> ((3 : Int32) &&& 31).toUInt32).toInt32) &&& (3 : Int32))), .val (.ref b11_r), .val (.int (own_c0 p1)), .val (.int (1 : Int32)), .val (.int (1 : Int32))] [(.ref b11_r), (.int (own_cn p2)), (.ref b1)])) (fun t kt => ?_) ?_
            · show Steps p.tables e below (T11.setTop (mkF m 245 #[.val (.int p0), .val (.int p1), .val (.int p2), .val (.int (own_c0 p0)), .val (.int (own_c1 p0)), .val (.int (own_c2 p0)), .val (.int (own_c3 p0)), .val (.ref b1), .val (.int (own_cn p2)), .val (.int (((p2.toUInt32 >>> ((3 : Int32) &&& 31).toUInt32).toInt32) &&& (3 : Int32))), .val (.ref b11_r), .val (.int (own_c0 p1)), .val (.int (1 : Int32)), .val (.int (-1 : Int32))] [])) t
              refine XS.iconst X11.here hx rfl (hb hby at_245) ?_
              refine XS.istore X11.here hx rfl (hb hby at_246) rfl (l' := #[.val (.int p0), .val (.int p1), .val (.int p2), .val (.int (own_c0 p0)), .val (.int (own_c1 p0)), .val (.int (own_c2 p0)), .val (.int (own_c3 p0)), .val (.ref b1), .val (.int (own_cn p2)), .val (.int (((p2.toUInt32 >>> ((3 : Int32) &&& 31).toUInt32).toInt32) &&& (3 : Int32))), .val (.ref b11_r), .val (.int (own_c0 p1)), .val (.int (1 : Int32)), .val (.int (1 : Int32))]) rfl ?_
              refine XS.goto X11.here hx rfl (pc0 := 248) (pc' := 286) rfl (hb hby at_248) (by decide) (by decide) ?_
              refine XS.aload X11.here hx rfl (hb hby at_286) rfl rfl ?_
              refine XS.iload X11.here hx rfl (hb hby at_288) rfl ?_
              refine XS.aload X11.here hx rfl (hb hby at_290) rfl rfl ?_
              exact kt
            refine OGo.callS X11 hx hZ (y := (⟨"com/example/kette/kette/JsonObject", "walk", "([Ljava/lang/String;ILjava/lang/Object;)I"⟩ : MethodName)) hown (own_wd hw 28 rfl) (own_wd hw 29 rfl) (own_wd hw 30 rfl) (own_wd hw 31 rfl) (by decide) (rm6 l Z az hw [] b1 (own_cn p2) b11_r k1 b2_r b4_r b6_r b8_r b2_t b4_t b6_t b8_t (own_by (own_ch (own_c0 p0))) (own_by (own_ch (own_c1 p0))) (own_by (own_ch (own_c2 p0))) (own_by (own_ch (own_c3 p0))) b11_t (own_by (own_ch (own_c0 p1))) w_COMPACT_STRINGS T11.heap n0 (Nat.le_trans Z0 KC11.1) (V9.keep K11 nin0) (Z10_5.keep K11) (Z10_6.keep K11 nin0) (Z10_7.keep K11 nin0) (Z10_8.keep K11 nin0) (Z10_9.keep K11) (Z10_10.keep K11 nin0) (Z10_11.keep K11 nin0) (Z10_12.keep K11 nin0) (Z10_13.keep K11) (Z10_14.keep K11 nin0) (Z10_15.keep K11 nin0) (Z10_16.keep K11 nin0) (Z10_17.keep K11) (Z10_18.keep K11 nin0) (Z10_19.keep K11 nin0) (Z10_20.keep K11 nin0) P11_0 P11_1 P11_2 P11_3 hC (own_cnt _) (own_stakeep Z10_4 K11 all0)) (W := 0) (by decide) (by decide) (g := (mkF m 292 #[.val (.int p0), .val (.int p1), .val (.int p2), .val (.int (own_c0 p0)), .val (.int (own_c1 p0)), .val (.int (own_c2 p0)), .val (.int (own_c3 p0)), .val (.ref b1), .val (.int (own_cn p2)), .val (.int (((p2.toUInt32 >>> ((3 : Int32) &&& 31).toUInt32).toInt32) &&& (3 : Int32))), .val (.ref b11_r), .val (.int (own_c0 p1)), .val (.int (1 : Int32)), .val (.int (1 : Int32))] [(.ref b11_r), (.int (own_cn p2)), (.ref b1)])) rfl (by rw [hml]; rfl) (argsL := [(.ref b1), (.int (own_cn p2)), (.ref b11_r)]) (rest := []) (lenOf pd_0_1 rfl) rfl (by show 2 * 0 + _ ≤ _; exact Nat.le_of_eq rfl) (hb hby at_292) rfl rfl (by decide) (by decide) ?_
            rintro _ T13 L13 X13 ⟨rfl, Nq13, e13⟩
            have N13 := Fr.app N11 Nq13
            show OGo _ _ _ _ _ _ _ (T13.setTop (mkF m 295 #[.val (.int p0), .val (.int p1), .val (.int p2), .val (.int (own_c0 p0)), .val (.int (own_c1 p0)), .val (.int (own_c2 p0)), .val (.int (own_c3 p0)), .val (.ref b1), .val (.int (own_cn p2)), .val (.int (((p2.toUInt32 >>> ((3 : Int32) &&& 31).toUInt32).toInt32) &&& (3 : Int32))), .val (.ref b11_r), .val (.int (own_c0 p1)), .val (.int (1 : Int32)), .val (.int (1 : Int32))] [(.int (f6 (own_cn p2) b11_r b2_r b4_r b6_r b8_r (own_by (own_ch (own_c0 p0))) (own_by (own_ch (own_c1 p0))) (own_by (own_ch (own_c2 p0))) (own_by (own_ch (own_c3 p0))) (own_by (own_ch (own_c0 p1)))))]))
            refine OGo.step (F' := T13.setTop (mkF m 305 #[.val (.int p0), .val (.int p1), .val (.int p2), .val (.int (own_c0 p0)), .val (.int (own_c1 p0)), .val (.int (own_c2 p0)), .val (.int (own_c3 p0)), .val (.ref b1), .val (.int (own_cn p2)), .val (.int (((p2.toUInt32 >>> ((3 : Int32) &&& 31).toUInt32).toInt32) &&& (3 : Int32))), .val (.ref b11_r), .val (.int (own_c0 p1)), .val (.int (1 : Int32)), .val (.int (1 : Int32))] [(.int (1 : Int32))])) (fun t kt => ?_) ?_
            · show Steps p.tables e below (T13.setTop (mkF m 295 #[.val (.int p0), .val (.int p1), .val (.int p2), .val (.int (own_c0 p0)), .val (.int (own_c1 p0)), .val (.int (own_c2 p0)), .val (.int (own_c3 p0)), .val (.ref b1), .val (.int (own_cn p2)), .val (.int (((p2.toUInt32 >>> ((3 : Int32) &&& 31).toUInt32).toInt32) &&& (3 : Int32))), .val (.ref b11_r), .val (.int (own_c0 p1)), .val (.int (1 : Int32)), .val (.int (1 : Int32))] [(.int (f6 (own_cn p2) b11_r b2_r b4_r b6_r b8_r (own_by (own_ch (own_c0 p0))) (own_by (own_ch (own_c1 p0))) (own_by (own_ch (own_c2 p0))) (own_by (own_ch (own_c3 p0))) (own_by (own_ch (own_c0 p1)))))])) t
              refine XS.iload X13.here hx rfl (hb hby at_295) rfl ?_
              refine XS.icmpNo X13.here hx rfl (hb hby at_297) rfl (teq (by rw [own_fin _ (own_c0 p0) (own_c1 p0) (own_c2 p0) (own_c3 p0) (own_c0 p1) _ _ _ _ _ _ _ _ _ _ (own_e _ _ _ _ (own_r0 _) (own_r0 _) (fun q => absurd q (Nat.ne_of_lt (Nat.lt_of_lt_of_le Z10_5.lt szo_b11_r)))) (own_e _ _ _ _ (own_r1 _) (own_r0 _) (fun q => absurd q (Nat.ne_of_lt (Nat.lt_of_lt_of_le Z10_9.lt szo_b11_r)))) (own_e _ _ _ _ (own_r2 _) (own_r0 _) (fun q => absurd q (Nat.ne_of_lt (Nat.lt_of_lt_of_le Z10_13.lt szo_b11_r)))) (own_e _ _ _ _ (own_r3 _) (own_r0 _) (fun q => absurd q (Nat.ne_of_lt (Nat.lt_of_lt_of_le Z10_17.lt szo_b11_r)))) (own_cnt _), own_exp, if_neg (fun q => hc223 q.2), if_pos ⟨hc235, hc242⟩])).2 ?_
              refine XS.iconst X13.here hx rfl (hb hby at_300) ?_
              refine XS.goto X13.here hx rfl (pc0 := 301) (pc' := 305) rfl (hb hby at_301) (by decide) (by decide) ?_
              exact kt
            refine OGo.retZ X13 hx hlk (t := .boolean) (z' := (1 : Int32)) hret (by simp) (hb hby at_305) rfl ?_ (by decide) (by decide)
            show Q0 Z p0 p1 p2 w_high w_cache w_COMPACT_STRINGS h0 n0 _ T13.heap _
            rw [e13]
            exact ⟨rfl, N13, KC11⟩
          · refine OGo.step (F' := T11.setTop (mkF m 251 #[.val (.int p0), .val (.int p1), .val (.int p2), .val (.int (own_c0 p0)), .val (.int (own_c1 p0)), .val (.int (own_c2 p0)), .val (.int (own_c3 p0)), .val (.ref b1), .val (.int (own_cn p2)), .val (.int (((p2.toUInt32 >>> ((3 : Int32) &&& 31).toUInt32).toInt32) &&& (3 : Int32))), .val (.ref b11_r), .val (.int (own_c0 p1)), .val (.int (1 : Int32)), .val (.int (-1 : Int32))] [])) (fun t kt => ?_) ?_
            · show Steps p.tables e below (T11.setTop (mkF m 242 #[.val (.int p0), .val (.int p1), .val (.int p2), .val (.int (own_c0 p0)), .val (.int (own_c1 p0)), .val (.int (own_c2 p0)), .val (.int (own_c3 p0)), .val (.ref b1), .val (.int (own_cn p2)), .val (.int (((p2.toUInt32 >>> ((3 : Int32) &&& 31).toUInt32).toInt32) &&& (3 : Int32))), .val (.ref b11_r), .val (.int (own_c0 p1)), .val (.int (1 : Int32)), .val (.int (-1 : Int32))] [(.int (own_c0 p1)), (.int (own_c1 p0))])) t
              refine XS.icmpYes X11.here hx rfl (pc0 := 242) (pc' := 251) rfl (hb hby at_242) rfl (feq hc242).2 (by decide) (by decide) ?_
              exact kt
            refine OGo.step (F' := T11.setTop (mkF m 254 #[.val (.int p0), .val (.int p1), .val (.int p2), .val (.int (own_c0 p0)), .val (.int (own_c1 p0)), .val (.int (own_c2 p0)), .val (.int (own_c3 p0)), .val (.ref b1), .val (.int (own_cn p2)), .val (.int (((p2.toUInt32 >>> ((3 : Int32) &&& 31).toUInt32).toInt32) &&& (3 : Int32))), .val (.ref b11_r), .val (.int (own_c0 p1)), .val (.int (1 : Int32)), .val (.int (-1 : Int32))] [(.int (2 : Int32)), (.int (own_cn p2))])) (fun t kt => ?_) ?_
            · show Steps p.tables e below (T11.setTop (mkF m 251 #[.val (.int p0), .val (.int p1), .val (.int p2), .val (.int (own_c0 p0)), .val (.int (own_c1 p0)), .val (.int (own_c2 p0)), .val (.int (own_c3 p0)), .val (.ref b1), .val (.int (own_cn p2)), .val (.int (((p2.toUInt32 >>> ((3 : Int32) &&& 31).toUInt32).toInt32) &&& (3 : Int32))), .val (.ref b11_r), .val (.int (own_c0 p1)), .val (.int (1 : Int32)), .val (.int (-1 : Int32))] [])) t
              refine XS.iload X11.here hx rfl (hb hby at_251) rfl ?_
              refine XS.iconst X11.here hx rfl (hb hby at_253) ?_
              exact kt
            by_cases hc254 : (2 : Int32) < (own_cn p2)
            · refine OGo.step (F' := T11.setTop (mkF m 257 #[.val (.int p0), .val (.int p1), .val (.int p2), .val (.int (own_c0 p0)), .val (.int (own_c1 p0)), .val (.int (own_c2 p0)), .val (.int (own_c3 p0)), .val (.ref b1), .val (.int (own_cn p2)), .val (.int (((p2.toUInt32 >>> ((3 : Int32) &&& 31).toUInt32).toInt32) &&& (3 : Int32))), .val (.ref b11_r), .val (.int (own_c0 p1)), .val (.int (1 : Int32)), .val (.int (-1 : Int32))] [])) (fun t kt => ?_) ?_
              · show Steps p.tables e below (T11.setTop (mkF m 254 #[.val (.int p0), .val (.int p1), .val (.int p2), .val (.int (own_c0 p0)), .val (.int (own_c1 p0)), .val (.int (own_c2 p0)), .val (.int (own_c3 p0)), .val (.ref b1), .val (.int (own_cn p2)), .val (.int (((p2.toUInt32 >>> ((3 : Int32) &&& 31).toUInt32).toInt32) &&& (3 : Int32))), .val (.ref b11_r), .val (.int (own_c0 p1)), .val (.int (1 : Int32)), .val (.int (-1 : Int32))] [(.int (2 : Int32)), (.int (own_cn p2))])) t
                refine XS.icmpNo X11.here hx rfl (hb hby at_254) rfl (tlt hc254).2.2.2 ?_
                exact kt
              refine OGo.step (F' := T11.setTop (mkF m 261 #[.val (.int p0), .val (.int p1), .val (.int p2), .val (.int (own_c0 p0)), .val (.int (own_c1 p0)), .val (.int (own_c2 p0)), .val (.int (own_c3 p0)), .val (.ref b1), .val (.int (own_cn p2)), .val (.int (((p2.toUInt32 >>> ((3 : Int32) &&& 31).toUInt32).toInt32) &&& (3 : Int32))), .val (.ref b11_r), .val (.int (own_c0 p1)), .val (.int (1 : Int32)), .val (.int (-1 : Int32))] [(.int (own_c0 p1)), (.int (own_c2 p0))])) (fun t kt => ?_) ?_
              · show Steps p.tables e below (T11.setTop (mkF m 257 #[.val (.int p0), .val (.int p1), .val (.int p2), .val (.int (own_c0 p0)), .val (.int (own_c1 p0)), .val (.int (own_c2 p0)), .val (.int (own_c3 p0)), .val (.ref b1), .val (.int (own_cn p2)), .val (.int (((p2.toUInt32 >>> ((3 : Int32) &&& 31).toUInt32).toInt32) &&& (3 : Int32))), .val (.ref b11_r), .val (.int (own_c0 p1)), .val (.int (1 : Int32)), .val (.int (-1 : Int32))] [])) t
                refine XS.iload X11.here hx rfl (hb hby at_257) rfl ?_
                refine XS.iload X11.here hx rfl (hb hby at_259) rfl ?_
                exact kt
              by_cases hc261 : (own_c2 p0) = (own_c0 p1)
              · refine OGo.step (F' := T11.setTop (mkF m 264 #[.val (.int p0), .val (.int p1), .val (.int p2), .val (.int (own_c0 p0)), .val (.int (own_c1 p0)), .val (.int (own_c2 p0)), .val (.int (own_c3 p0)), .val (.ref b1), .val (.int (own_cn p2)), .val (.int (((p2.toUInt32 >>> ((3 : Int32) &&& 31).toUInt32).toInt32) &&& (3 : Int32))), .val (.ref b11_r), .val (.int (own_c0 p1)), .val (.int (1 : Int32)), .val (.int (-1 : Int32))] [])) (fun t kt => ?_) ?_
                · show Steps p.tables e below (T11.setTop (mkF m 261 #[.val (.int p0), .val (.int p1), .val (.int p2), .val (.int (own_c0 p0)), .val (.int (own_c1 p0)), .val (.int (own_c2 p0)), .val (.int (own_c3 p0)), .val (.ref b1), .val (.int (own_cn p2)), .val (.int (((p2.toUInt32 >>> ((3 : Int32) &&& 31).toUInt32).toInt32) &&& (3 : Int32))), .val (.ref b11_r), .val (.int (own_c0 p1)), .val (.int (1 : Int32)), .val (.int (-1 : Int32))] [(.int (own_c0 p1)), (.int (own_c2 p0))])) t
                  refine XS.icmpNo X11.here hx rfl (hb hby at_261) rfl (teq hc261).2 ?_
                  exact kt
                refine OGo.step (F' := T11.setTop (mkF m 292 #[.val (.int p0), .val (.int p1), .val (.int p2), .val (.int (own_c0 p0)), .val (.int (own_c1 p0)), .val (.int (own_c2 p0)), .val (.int (own_c3 p0)), .val (.ref b1), .val (.int (own_cn p2)), .val (.int (((p2.toUInt32 >>> ((3 : Int32) &&& 31).toUInt32).toInt32) &&& (3 : Int32))), .val (.ref b11_r), .val (.int (own_c0 p1)), .val (.int (1 : Int32)), .val (.int (2 : Int32))] [(.ref b11_r), (.int (own_cn p2)), (.ref b1)])) (fun t kt => ?_) ?_
                · show Steps p.tables e below (T11.setTop (mkF m 264 #[.val (.int p0), .val (.int p1), .val (.int p2), .val (.int (own_c0 p0)), .val (.int (own_c1 p0)), .val (.int (own_c2 p0)), .val (.int (own_c3 p0)), .val (.ref b1), .val (.int (own_cn p2)), .val (.int (((p2.toUInt32 >>> ((3 : Int32) &&& 31).toUInt32).toInt32) &&& (3 : Int32))), .val (.ref b11_r), .val (.int (own_c0 p1)), .val (.int (1 : Int32)), .val (.int (-1 : Int32))] [])) t
                  refine XS.iconst X11.here hx rfl (hb hby at_264) ?_
                  refine XS.istore X11.here hx rfl (hb hby at_265) rfl (l' := #[.val (.int p0), .val (.int p1), .val (.int p2), .val (.int (own_c0 p0)), .val (.int (own_c1 p0)), .val (.int (own_c2 p0)), .val (.int (own_c3 p0)), .val (.ref b1), .val (.int (own_cn p2)), .val (.int (((p2.toUInt32 >>> ((3 : Int32) &&& 31).toUInt32).toInt32) &&& (3 : Int32))), .val (.ref b11_r), .val (.int (own_c0 p1)), .val (.int (1 : Int32)), .val (.int (2 : Int32))]) rfl ?_
                  refine XS.goto X11.here hx rfl (pc0 := 267) (pc' := 286) rfl (hb hby at_267) (by decide) (by decide) ?_
                  refine XS.aload X11.here hx rfl (hb hby at_286) rfl rfl ?_
                  refine XS.iload X11.here hx rfl (hb hby at_288) rfl ?_
                  refine XS.aload X11.here hx rfl (hb hby at_290) rfl rfl ?_
                  exact kt
                refine OGo.callS X11 hx hZ (y := (⟨"com/example/kette/kette/JsonObject", "walk", "([Ljava/lang/String;ILjava/lang/Object;)I"⟩ : MethodName)) hown (own_wd hw 28 rfl) (own_wd hw 29 rfl) (own_wd hw 30 rfl) (own_wd hw 31 rfl) (by decide) (rm6 l Z az hw [] b1 (own_cn p2) b11_r k1 b2_r b4_r b6_r b8_r b2_t b4_t b6_t b8_t (own_by (own_ch (own_c0 p0))) (own_by (own_ch (own_c1 p0))) (own_by (own_ch (own_c2 p0))) (own_by (own_ch (own_c3 p0))) b11_t (own_by (own_ch (own_c0 p1))) w_COMPACT_STRINGS T11.heap n0 (Nat.le_trans Z0 KC11.1) (V9.keep K11 nin0) (Z10_5.keep K11) (Z10_6.keep K11 nin0) (Z10_7.keep K11 nin0) (Z10_8.keep K11 nin0) (Z10_9.keep K11) (Z10_10.keep K11 nin0) (Z10_11.keep K11 nin0) (Z10_12.keep K11 nin0) (Z10_13.keep K11) (Z10_14.keep K11 nin0) (Z10_15.keep K11 nin0) (Z10_16.keep K11 nin0) (Z10_17.keep K11) (Z10_18.keep K11 nin0) (Z10_19.keep K11 nin0) (Z10_20.keep K11 nin0) P11_0 P11_1 P11_2 P11_3 hC (own_cnt _) (own_stakeep Z10_4 K11 all0)) (W := 0) (by decide) (by decide) (g := (mkF m 292 #[.val (.int p0), .val (.int p1), .val (.int p2), .val (.int (own_c0 p0)), .val (.int (own_c1 p0)), .val (.int (own_c2 p0)), .val (.int (own_c3 p0)), .val (.ref b1), .val (.int (own_cn p2)), .val (.int (((p2.toUInt32 >>> ((3 : Int32) &&& 31).toUInt32).toInt32) &&& (3 : Int32))), .val (.ref b11_r), .val (.int (own_c0 p1)), .val (.int (1 : Int32)), .val (.int (2 : Int32))] [(.ref b11_r), (.int (own_cn p2)), (.ref b1)])) rfl (by rw [hml]; rfl) (argsL := [(.ref b1), (.int (own_cn p2)), (.ref b11_r)]) (rest := []) (lenOf pd_0_1 rfl) rfl (by show 2 * 0 + _ ≤ _; exact Nat.le_of_eq rfl) (hb hby at_292) rfl rfl (by decide) (by decide) ?_
                rintro _ T14 L14 X14 ⟨rfl, Nq14, e14⟩
                have N14 := Fr.app N11 Nq14
                show OGo _ _ _ _ _ _ _ (T14.setTop (mkF m 295 #[.val (.int p0), .val (.int p1), .val (.int p2), .val (.int (own_c0 p0)), .val (.int (own_c1 p0)), .val (.int (own_c2 p0)), .val (.int (own_c3 p0)), .val (.ref b1), .val (.int (own_cn p2)), .val (.int (((p2.toUInt32 >>> ((3 : Int32) &&& 31).toUInt32).toInt32) &&& (3 : Int32))), .val (.ref b11_r), .val (.int (own_c0 p1)), .val (.int (1 : Int32)), .val (.int (2 : Int32))] [(.int (f6 (own_cn p2) b11_r b2_r b4_r b6_r b8_r (own_by (own_ch (own_c0 p0))) (own_by (own_ch (own_c1 p0))) (own_by (own_ch (own_c2 p0))) (own_by (own_ch (own_c3 p0))) (own_by (own_ch (own_c0 p1)))))]))
                refine OGo.step (F' := T14.setTop (mkF m 305 #[.val (.int p0), .val (.int p1), .val (.int p2), .val (.int (own_c0 p0)), .val (.int (own_c1 p0)), .val (.int (own_c2 p0)), .val (.int (own_c3 p0)), .val (.ref b1), .val (.int (own_cn p2)), .val (.int (((p2.toUInt32 >>> ((3 : Int32) &&& 31).toUInt32).toInt32) &&& (3 : Int32))), .val (.ref b11_r), .val (.int (own_c0 p1)), .val (.int (1 : Int32)), .val (.int (2 : Int32))] [(.int (1 : Int32))])) (fun t kt => ?_) ?_
                · show Steps p.tables e below (T14.setTop (mkF m 295 #[.val (.int p0), .val (.int p1), .val (.int p2), .val (.int (own_c0 p0)), .val (.int (own_c1 p0)), .val (.int (own_c2 p0)), .val (.int (own_c3 p0)), .val (.ref b1), .val (.int (own_cn p2)), .val (.int (((p2.toUInt32 >>> ((3 : Int32) &&& 31).toUInt32).toInt32) &&& (3 : Int32))), .val (.ref b11_r), .val (.int (own_c0 p1)), .val (.int (1 : Int32)), .val (.int (2 : Int32))] [(.int (f6 (own_cn p2) b11_r b2_r b4_r b6_r b8_r (own_by (own_ch (own_c0 p0))) (own_by (own_ch (own_c1 p0))) (own_by (own_ch (own_c2 p0))) (own_by (own_ch (own_c3 p0))) (own_by (own_ch (own_c0 p1)))))])) t
                  refine XS.iload X14.here hx rfl (hb hby at_295) rfl ?_
                  refine XS.icmpNo X14.here hx rfl (hb hby at_297) rfl (teq (by rw [own_fin _ (own_c0 p0) (own_c1 p0) (own_c2 p0) (own_c3 p0) (own_c0 p1) _ _ _ _ _ _ _ _ _ _ (own_e _ _ _ _ (own_r0 _) (own_r0 _) (fun q => absurd q (Nat.ne_of_lt (Nat.lt_of_lt_of_le Z10_5.lt szo_b11_r)))) (own_e _ _ _ _ (own_r1 _) (own_r0 _) (fun q => absurd q (Nat.ne_of_lt (Nat.lt_of_lt_of_le Z10_9.lt szo_b11_r)))) (own_e _ _ _ _ (own_r2 _) (own_r0 _) (fun q => absurd q (Nat.ne_of_lt (Nat.lt_of_lt_of_le Z10_13.lt szo_b11_r)))) (own_e _ _ _ _ (own_r3 _) (own_r0 _) (fun q => absurd q (Nat.ne_of_lt (Nat.lt_of_lt_of_le Z10_17.lt szo_b11_r)))) (own_cnt _), own_exp, if_neg (fun q => hc223 q.2), if_neg (fun q => hc242 q.2), if_pos ⟨hc254, hc261⟩])).2 ?_
                  refine XS.iconst X14.here hx rfl (hb hby at_300) ?_
                  refine XS.goto X14.here hx rfl (pc0 := 301) (pc' := 305) rfl (hb hby at_301) (by decide) (by decide) ?_
                  exact kt
                refine OGo.retZ X14 hx hlk (t := .boolean) (z' := (1 : Int32)) hret (by simp) (hb hby at_305) rfl ?_ (by decide) (by decide)
                show Q0 Z p0 p1 p2 w_high w_cache w_COMPACT_STRINGS h0 n0 _ T14.heap _
                rw [e14]
                exact ⟨rfl, N14, KC11⟩
              · refine OGo.step (F' := T11.setTop (mkF m 270 #[.val (.int p0), .val (.int p1), .val (.int p2), .val (.int (own_c0 p0)), .val (.int (own_c1 p0)), .val (.int (own_c2 p0)), .val (.int (own_c3 p0)), .val (.ref b1), .val (.int (own_cn p2)), .val (.int (((p2.toUInt32 >>> ((3 : Int32) &&& 31).toUInt32).toInt32) &&& (3 : Int32))), .val (.ref b11_r), .val (.int (own_c0 p1)), .val (.int (1 : Int32)), .val (.int (-1 : Int32))] [])) (fun t kt => ?_) ?_
                · show Steps p.tables e below (T11.setTop (mkF m 261 #[.val (.int p0), .val (.int p1), .val (.int p2), .val (.int (own_c0 p0)), .val (.int (own_c1 p0)), .val (.int (own_c2 p0)), .val (.int (own_c3 p0)), .val (.ref b1), .val (.int (own_cn p2)), .val (.int (((p2.toUInt32 >>> ((3 : Int32) &&& 31).toUInt32).toInt32) &&& (3 : Int32))), .val (.ref b11_r), .val (.int (own_c0 p1)), .val (.int (1 : Int32)), .val (.int (-1 : Int32))] [(.int (own_c0 p1)), (.int (own_c2 p0))])) t
                  refine XS.icmpYes X11.here hx rfl (pc0 := 261) (pc' := 270) rfl (hb hby at_261) rfl (feq hc261).2 (by decide) (by decide) ?_
                  exact kt
                refine OGo.step (F' := T11.setTop (mkF m 273 #[.val (.int p0), .val (.int p1), .val (.int p2), .val (.int (own_c0 p0)), .val (.int (own_c1 p0)), .val (.int (own_c2 p0)), .val (.int (own_c3 p0)), .val (.ref b1), .val (.int (own_cn p2)), .val (.int (((p2.toUInt32 >>> ((3 : Int32) &&& 31).toUInt32).toInt32) &&& (3 : Int32))), .val (.ref b11_r), .val (.int (own_c0 p1)), .val (.int (1 : Int32)), .val (.int (-1 : Int32))] [(.int (3 : Int32)), (.int (own_cn p2))])) (fun t kt => ?_) ?_
                · show Steps p.tables e below (T11.setTop (mkF m 270 #[.val (.int p0), .val (.int p1), .val (.int p2), .val (.int (own_c0 p0)), .val (.int (own_c1 p0)), .val (.int (own_c2 p0)), .val (.int (own_c3 p0)), .val (.ref b1), .val (.int (own_cn p2)), .val (.int (((p2.toUInt32 >>> ((3 : Int32) &&& 31).toUInt32).toInt32) &&& (3 : Int32))), .val (.ref b11_r), .val (.int (own_c0 p1)), .val (.int (1 : Int32)), .val (.int (-1 : Int32))] [])) t
                  refine XS.iload X11.here hx rfl (hb hby at_270) rfl ?_
                  refine XS.iconst X11.here hx rfl (hb hby at_272) ?_
                  exact kt
                by_cases hc273 : (3 : Int32) < (own_cn p2)
                · refine OGo.step (F' := T11.setTop (mkF m 276 #[.val (.int p0), .val (.int p1), .val (.int p2), .val (.int (own_c0 p0)), .val (.int (own_c1 p0)), .val (.int (own_c2 p0)), .val (.int (own_c3 p0)), .val (.ref b1), .val (.int (own_cn p2)), .val (.int (((p2.toUInt32 >>> ((3 : Int32) &&& 31).toUInt32).toInt32) &&& (3 : Int32))), .val (.ref b11_r), .val (.int (own_c0 p1)), .val (.int (1 : Int32)), .val (.int (-1 : Int32))] [])) (fun t kt => ?_) ?_
                  · show Steps p.tables e below (T11.setTop (mkF m 273 #[.val (.int p0), .val (.int p1), .val (.int p2), .val (.int (own_c0 p0)), .val (.int (own_c1 p0)), .val (.int (own_c2 p0)), .val (.int (own_c3 p0)), .val (.ref b1), .val (.int (own_cn p2)), .val (.int (((p2.toUInt32 >>> ((3 : Int32) &&& 31).toUInt32).toInt32) &&& (3 : Int32))), .val (.ref b11_r), .val (.int (own_c0 p1)), .val (.int (1 : Int32)), .val (.int (-1 : Int32))] [(.int (3 : Int32)), (.int (own_cn p2))])) t
                    refine XS.icmpNo X11.here hx rfl (hb hby at_273) rfl (tlt hc273).2.2.2 ?_
                    exact kt
                  refine OGo.step (F' := T11.setTop (mkF m 280 #[.val (.int p0), .val (.int p1), .val (.int p2), .val (.int (own_c0 p0)), .val (.int (own_c1 p0)), .val (.int (own_c2 p0)), .val (.int (own_c3 p0)), .val (.ref b1), .val (.int (own_cn p2)), .val (.int (((p2.toUInt32 >>> ((3 : Int32) &&& 31).toUInt32).toInt32) &&& (3 : Int32))), .val (.ref b11_r), .val (.int (own_c0 p1)), .val (.int (1 : Int32)), .val (.int (-1 : Int32))] [(.int (own_c0 p1)), (.int (own_c3 p0))])) (fun t kt => ?_) ?_
                  · show Steps p.tables e below (T11.setTop (mkF m 276 #[.val (.int p0), .val (.int p1), .val (.int p2), .val (.int (own_c0 p0)), .val (.int (own_c1 p0)), .val (.int (own_c2 p0)), .val (.int (own_c3 p0)), .val (.ref b1), .val (.int (own_cn p2)), .val (.int (((p2.toUInt32 >>> ((3 : Int32) &&& 31).toUInt32).toInt32) &&& (3 : Int32))), .val (.ref b11_r), .val (.int (own_c0 p1)), .val (.int (1 : Int32)), .val (.int (-1 : Int32))] [])) t
                    refine XS.iload X11.here hx rfl (hb hby at_276) rfl ?_
                    refine XS.iload X11.here hx rfl (hb hby at_278) rfl ?_
                    exact kt
                  by_cases hc280 : (own_c3 p0) = (own_c0 p1)
                  · refine OGo.step (F' := T11.setTop (mkF m 283 #[.val (.int p0), .val (.int p1), .val (.int p2), .val (.int (own_c0 p0)), .val (.int (own_c1 p0)), .val (.int (own_c2 p0)), .val (.int (own_c3 p0)), .val (.ref b1), .val (.int (own_cn p2)), .val (.int (((p2.toUInt32 >>> ((3 : Int32) &&& 31).toUInt32).toInt32) &&& (3 : Int32))), .val (.ref b11_r), .val (.int (own_c0 p1)), .val (.int (1 : Int32)), .val (.int (-1 : Int32))] [])) (fun t kt => ?_) ?_
                    · show Steps p.tables e below (T11.setTop (mkF m 280 #[.val (.int p0), .val (.int p1), .val (.int p2), .val (.int (own_c0 p0)), .val (.int (own_c1 p0)), .val (.int (own_c2 p0)), .val (.int (own_c3 p0)), .val (.ref b1), .val (.int (own_cn p2)), .val (.int (((p2.toUInt32 >>> ((3 : Int32) &&& 31).toUInt32).toInt32) &&& (3 : Int32))), .val (.ref b11_r), .val (.int (own_c0 p1)), .val (.int (1 : Int32)), .val (.int (-1 : Int32))] [(.int (own_c0 p1)), (.int (own_c3 p0))])) t
                      refine XS.icmpNo X11.here hx rfl (hb hby at_280) rfl (teq hc280).2 ?_
                      exact kt
                    refine OGo.step (F' := T11.setTop (mkF m 292 #[.val (.int p0), .val (.int p1), .val (.int p2), .val (.int (own_c0 p0)), .val (.int (own_c1 p0)), .val (.int (own_c2 p0)), .val (.int (own_c3 p0)), .val (.ref b1), .val (.int (own_cn p2)), .val (.int (((p2.toUInt32 >>> ((3 : Int32) &&& 31).toUInt32).toInt32) &&& (3 : Int32))), .val (.ref b11_r), .val (.int (own_c0 p1)), .val (.int (1 : Int32)), .val (.int (3 : Int32))] [(.ref b11_r), (.int (own_cn p2)), (.ref b1)])) (fun t kt => ?_) ?_
                    · show Steps p.tables e below (T11.setTop (mkF m 283 #[.val (.int p0), .val (.int p1), .val (.int p2), .val (.int (own_c0 p0)), .val (.int (own_c1 p0)), .val (.int (own_c2 p0)), .val (.int (own_c3 p0)), .val (.ref b1), .val (.int (own_cn p2)), .val (.int (((p2.toUInt32 >>> ((3 : Int32) &&& 31).toUInt32).toInt32) &&& (3 : Int32))), .val (.ref b11_r), .val (.int (own_c0 p1)), .val (.int (1 : Int32)), .val (.int (-1 : Int32))] [])) t
                      refine XS.iconst X11.here hx rfl (hb hby at_283) ?_
                      refine XS.istore X11.here hx rfl (hb hby at_284) rfl (l' := #[.val (.int p0), .val (.int p1), .val (.int p2), .val (.int (own_c0 p0)), .val (.int (own_c1 p0)), .val (.int (own_c2 p0)), .val (.int (own_c3 p0)), .val (.ref b1), .val (.int (own_cn p2)), .val (.int (((p2.toUInt32 >>> ((3 : Int32) &&& 31).toUInt32).toInt32) &&& (3 : Int32))), .val (.ref b11_r), .val (.int (own_c0 p1)), .val (.int (1 : Int32)), .val (.int (3 : Int32))]) rfl ?_
                      refine XS.aload X11.here hx rfl (hb hby at_286) rfl rfl ?_
                      refine XS.iload X11.here hx rfl (hb hby at_288) rfl ?_
                      refine XS.aload X11.here hx rfl (hb hby at_290) rfl rfl ?_
                      exact kt
                    refine OGo.callS X11 hx hZ (y := (⟨"com/example/kette/kette/JsonObject", "walk", "([Ljava/lang/String;ILjava/lang/Object;)I"⟩ : MethodName)) hown (own_wd hw 28 rfl) (own_wd hw 29 rfl) (own_wd hw 30 rfl) (own_wd hw 31 rfl) (by decide) (rm6 l Z az hw [] b1 (own_cn p2) b11_r k1 b2_r b4_r b6_r b8_r b2_t b4_t b6_t b8_t (own_by (own_ch (own_c0 p0))) (own_by (own_ch (own_c1 p0))) (own_by (own_ch (own_c2 p0))) (own_by (own_ch (own_c3 p0))) b11_t (own_by (own_ch (own_c0 p1))) w_COMPACT_STRINGS T11.heap n0 (Nat.le_trans Z0 KC11.1) (V9.keep K11 nin0) (Z10_5.keep K11) (Z10_6.keep K11 nin0) (Z10_7.keep K11 nin0) (Z10_8.keep K11 nin0) (Z10_9.keep K11) (Z10_10.keep K11 nin0) (Z10_11.keep K11 nin0) (Z10_12.keep K11 nin0) (Z10_13.keep K11) (Z10_14.keep K11 nin0) (Z10_15.keep K11 nin0) (Z10_16.keep K11 nin0) (Z10_17.keep K11) (Z10_18.keep K11 nin0) (Z10_19.keep K11 nin0) (Z10_20.keep K11 nin0) P11_0 P11_1 P11_2 P11_3 hC (own_cnt _) (own_stakeep Z10_4 K11 all0)) (W := 0) (by decide) (by decide) (g := (mkF m 292 #[.val (.int p0), .val (.int p1), .val (.int p2), .val (.int (own_c0 p0)), .val (.int (own_c1 p0)), .val (.int (own_c2 p0)), .val (.int (own_c3 p0)), .val (.ref b1), .val (.int (own_cn p2)), .val (.int (((p2.toUInt32 >>> ((3 : Int32) &&& 31).toUInt32).toInt32) &&& (3 : Int32))), .val (.ref b11_r), .val (.int (own_c0 p1)), .val (.int (1 : Int32)), .val (.int (3 : Int32))] [(.ref b11_r), (.int (own_cn p2)), (.ref b1)])) rfl (by rw [hml]; rfl) (argsL := [(.ref b1), (.int (own_cn p2)), (.ref b11_r)]) (rest := []) (lenOf pd_0_1 rfl) rfl (by show 2 * 0 + _ ≤ _; exact Nat.le_of_eq rfl) (hb hby at_292) rfl rfl (by decide) (by decide) ?_
                    rintro _ T15 L15 X15 ⟨rfl, Nq15, e15⟩
                    have N15 := Fr.app N11 Nq15
                    show OGo _ _ _ _ _ _ _ (T15.setTop (mkF m 295 #[.val (.int p0), .val (.int p1), .val (.int p2), .val (.int (own_c0 p0)), .val (.int (own_c1 p0)), .val (.int (own_c2 p0)), .val (.int (own_c3 p0)), .val (.ref b1), .val (.int (own_cn p2)), .val (.int (((p2.toUInt32 >>> ((3 : Int32) &&& 31).toUInt32).toInt32) &&& (3 : Int32))), .val (.ref b11_r), .val (.int (own_c0 p1)), .val (.int (1 : Int32)), .val (.int (3 : Int32))] [(.int (f6 (own_cn p2) b11_r b2_r b4_r b6_r b8_r (own_by (own_ch (own_c0 p0))) (own_by (own_ch (own_c1 p0))) (own_by (own_ch (own_c2 p0))) (own_by (own_ch (own_c3 p0))) (own_by (own_ch (own_c0 p1)))))]))
                    refine OGo.step (F' := T15.setTop (mkF m 305 #[.val (.int p0), .val (.int p1), .val (.int p2), .val (.int (own_c0 p0)), .val (.int (own_c1 p0)), .val (.int (own_c2 p0)), .val (.int (own_c3 p0)), .val (.ref b1), .val (.int (own_cn p2)), .val (.int (((p2.toUInt32 >>> ((3 : Int32) &&& 31).toUInt32).toInt32) &&& (3 : Int32))), .val (.ref b11_r), .val (.int (own_c0 p1)), .val (.int (1 : Int32)), .val (.int (3 : Int32))] [(.int (1 : Int32))])) (fun t kt => ?_) ?_
                    · show Steps p.tables e below (T15.setTop (mkF m 295 #[.val (.int p0), .val (.int p1), .val (.int p2), .val (.int (own_c0 p0)), .val (.int (own_c1 p0)), .val (.int (own_c2 p0)), .val (.int (own_c3 p0)), .val (.ref b1), .val (.int (own_cn p2)), .val (.int (((p2.toUInt32 >>> ((3 : Int32) &&& 31).toUInt32).toInt32) &&& (3 : Int32))), .val (.ref b11_r), .val (.int (own_c0 p1)), .val (.int (1 : Int32)), .val (.int (3 : Int32))] [(.int (f6 (own_cn p2) b11_r b2_r b4_r b6_r b8_r (own_by (own_ch (own_c0 p0))) (own_by (own_ch (own_c1 p0))) (own_by (own_ch (own_c2 p0))) (own_by (own_ch (own_c3 p0))) (own_by (own_ch (own_c0 p1)))))])) t
                      refine XS.iload X15.here hx rfl (hb hby at_295) rfl ?_
                      refine XS.icmpNo X15.here hx rfl (hb hby at_297) rfl (teq (by rw [own_fin _ (own_c0 p0) (own_c1 p0) (own_c2 p0) (own_c3 p0) (own_c0 p1) _ _ _ _ _ _ _ _ _ _ (own_e _ _ _ _ (own_r0 _) (own_r0 _) (fun q => absurd q (Nat.ne_of_lt (Nat.lt_of_lt_of_le Z10_5.lt szo_b11_r)))) (own_e _ _ _ _ (own_r1 _) (own_r0 _) (fun q => absurd q (Nat.ne_of_lt (Nat.lt_of_lt_of_le Z10_9.lt szo_b11_r)))) (own_e _ _ _ _ (own_r2 _) (own_r0 _) (fun q => absurd q (Nat.ne_of_lt (Nat.lt_of_lt_of_le Z10_13.lt szo_b11_r)))) (own_e _ _ _ _ (own_r3 _) (own_r0 _) (fun q => absurd q (Nat.ne_of_lt (Nat.lt_of_lt_of_le Z10_17.lt szo_b11_r)))) (own_cnt _), own_exp, if_neg (fun q => hc223 q.2), if_neg (fun q => hc242 q.2), if_neg (fun q => hc261 q.2), if_pos ⟨hc273, hc280⟩])).2 ?_
                      refine XS.iconst X15.here hx rfl (hb hby at_300) ?_
                      refine XS.goto X15.here hx rfl (pc0 := 301) (pc' := 305) rfl (hb hby at_301) (by decide) (by decide) ?_
                      exact kt
                    refine OGo.retZ X15 hx hlk (t := .boolean) (z' := (1 : Int32)) hret (by simp) (hb hby at_305) rfl ?_ (by decide) (by decide)
                    show Q0 Z p0 p1 p2 w_high w_cache w_COMPACT_STRINGS h0 n0 _ T15.heap _
                    rw [e15]
                    exact ⟨rfl, N15, KC11⟩
                  · refine OGo.step (F' := T11.setTop (mkF m 286 #[.val (.int p0), .val (.int p1), .val (.int p2), .val (.int (own_c0 p0)), .val (.int (own_c1 p0)), .val (.int (own_c2 p0)), .val (.int (own_c3 p0)), .val (.ref b1), .val (.int (own_cn p2)), .val (.int (((p2.toUInt32 >>> ((3 : Int32) &&& 31).toUInt32).toInt32) &&& (3 : Int32))), .val (.ref b11_r), .val (.int (own_c0 p1)), .val (.int (1 : Int32)), .val (.int (-1 : Int32))] [])) (fun t kt => ?_) ?_
                    · show Steps p.tables e below (T11.setTop (mkF m 280 #[.val (.int p0), .val (.int p1), .val (.int p2), .val (.int (own_c0 p0)), .val (.int (own_c1 p0)), .val (.int (own_c2 p0)), .val (.int (own_c3 p0)), .val (.ref b1), .val (.int (own_cn p2)), .val (.int (((p2.toUInt32 >>> ((3 : Int32) &&& 31).toUInt32).toInt32) &&& (3 : Int32))), .val (.ref b11_r), .val (.int (own_c0 p1)), .val (.int (1 : Int32)), .val (.int (-1 : Int32))] [(.int (own_c0 p1)), (.int (own_c3 p0))])) t
                      refine XS.icmpYes X11.here hx rfl (pc0 := 280) (pc' := 286) rfl (hb hby at_280) rfl (feq hc280).2 (by decide) (by decide) ?_
                      exact kt
                    refine OGo.step (F' := T11.setTop (mkF m 292 #[.val (.int p0), .val (.int p1), .val (.int p2), .val (.int (own_c0 p0)), .val (.int (own_c1 p0)), .val (.int (own_c2 p0)), .val (.int (own_c3 p0)), .val (.ref b1), .val (.int (own_cn p2)), .val (.int (((p2.toUInt32 >>> ((3 : Int32) &&& 31).toUInt32).toInt32) &&& (3 : Int32))), .val (.ref b11_r), .val (.int (own_c0 p1)), .val (.int (1 : Int32)), .val (.int (-1 : Int32))] [(.ref b11_r), (.int (own_cn p2)), (.ref b1)])) (fun t kt => ?_) ?_
                    · show Steps p.tables e below (T11.setTop (mkF m 286 #[.val (.int p0), .val (.int p1), .val (.int p2), .val (.int (own_c0 p0)), .val (.int (own_c1 p0)), .val (.int (own_c2 p0)), .val (.int (own_c3 p0)), .val (.ref b1), .val (.int (own_cn p2)), .val (.int (((p2.toUInt32 >>> ((3 : Int32) &&& 31).toUInt32).toInt32) &&& (3 : Int32))), .val (.ref b11_r), .val (.int (own_c0 p1)), .val (.int (1 : Int32)), .val (.int (-1 : Int32))] [])) t
                      refine XS.aload X11.here hx rfl (hb hby at_286) rfl rfl ?_
                      refine XS.iload X11.here hx rfl (hb hby at_288) rfl ?_
                      refine XS.aload X11.here hx rfl (hb hby at_290) rfl rfl ?_
                      exact kt
                    refine OGo.callS X11 hx hZ (y := (⟨"com/example/kette/kette/JsonObject", "walk", "([Ljava/lang/String;ILjava/lang/Object;)I"⟩ : MethodName)) hown (own_wd hw 28 rfl) (own_wd hw 29 rfl) (own_wd hw 30 rfl) (own_wd hw 31 rfl) (by decide) (rm6 l Z az hw [] b1 (own_cn p2) b11_r k1 b2_r b4_r b6_r b8_r b2_t b4_t b6_t b8_t (own_by (own_ch (own_c0 p0))) (own_by (own_ch (own_c1 p0))) (own_by (own_ch (own_c2 p0))) (own_by (own_ch (own_c3 p0))) b11_t (own_by (own_ch (own_c0 p1))) w_COMPACT_STRINGS T11.heap n0 (Nat.le_trans Z0 KC11.1) (V9.keep K11 nin0) (Z10_5.keep K11) (Z10_6.keep K11 nin0) (Z10_7.keep K11 nin0) (Z10_8.keep K11 nin0) (Z10_9.keep K11) (Z10_10.keep K11 nin0) (Z10_11.keep K11 nin0) (Z10_12.keep K11 nin0) (Z10_13.keep K11) (Z10_14.keep K11 nin0) (Z10_15.keep K11 nin0) (Z10_16.keep K11 nin0) (Z10_17.keep K11) (Z10_18.keep K11 nin0) (Z10_19.keep K11 nin0) (Z10_20.keep K11 nin0) P11_0 P11_1 P11_2 P11_3 hC (own_cnt _) (own_stakeep Z10_4 K11 all0)) (W := 0) (by decide) (by decide) (g := (mkF m 292 #[.val (.int p0), .val (.int p1), .val (.int p2), .val (.int (own_c0 p0)), .val (.int (own_c1 p0)), .val (.int (own_c2 p0)), .val (.int (own_c3 p0)), .val (.ref b1), .val (.int (own_cn p2)), .val (.int (((p2.toUInt32 >>> ((3 : Int32) &&& 31).toUInt32).toInt32) &&& (3 : Int32))), .val (.ref b11_r), .val (.int (own_c0 p1)), .val (.int (1 : Int32)), .val (.int (-1 : Int32))] [(.ref b11_r), (.int (own_cn p2)), (.ref b1)])) rfl (by rw [hml]; rfl) (argsL := [(.ref b1), (.int (own_cn p2)), (.ref b11_r)]) (rest := []) (lenOf pd_0_1 rfl) rfl (by show 2 * 0 + _ ≤ _; exact Nat.le_of_eq rfl) (hb hby at_292) rfl rfl (by decide) (by decide) ?_
                    rintro _ T16 L16 X16 ⟨rfl, Nq16, e16⟩
                    have N16 := Fr.app N11 Nq16
                    show OGo _ _ _ _ _ _ _ (T16.setTop (mkF m 295 #[.val (.int p0), .val (.int p1), .val (.int p2), .val (.int (own_c0 p0)), .val (.int (own_c1 p0)), .val (.int (own_c2 p0)), .val (.int (own_c3 p0)), .val (.ref b1), .val (.int (own_cn p2)), .val (.int (((p2.toUInt32 >>> ((3 : Int32) &&& 31).toUInt32).toInt32) &&& (3 : Int32))), .val (.ref b11_r), .val (.int (own_c0 p1)), .val (.int (1 : Int32)), .val (.int (-1 : Int32))] [(.int (f6 (own_cn p2) b11_r b2_r b4_r b6_r b8_r (own_by (own_ch (own_c0 p0))) (own_by (own_ch (own_c1 p0))) (own_by (own_ch (own_c2 p0))) (own_by (own_ch (own_c3 p0))) (own_by (own_ch (own_c0 p1)))))]))
                    refine OGo.step (F' := T16.setTop (mkF m 305 #[.val (.int p0), .val (.int p1), .val (.int p2), .val (.int (own_c0 p0)), .val (.int (own_c1 p0)), .val (.int (own_c2 p0)), .val (.int (own_c3 p0)), .val (.ref b1), .val (.int (own_cn p2)), .val (.int (((p2.toUInt32 >>> ((3 : Int32) &&& 31).toUInt32).toInt32) &&& (3 : Int32))), .val (.ref b11_r), .val (.int (own_c0 p1)), .val (.int (1 : Int32)), .val (.int (-1 : Int32))] [(.int (1 : Int32))])) (fun t kt => ?_) ?_
                    · show Steps p.tables e below (T16.setTop (mkF m 295 #[.val (.int p0), .val (.int p1), .val (.int p2), .val (.int (own_c0 p0)), .val (.int (own_c1 p0)), .val (.int (own_c2 p0)), .val (.int (own_c3 p0)), .val (.ref b1), .val (.int (own_cn p2)), .val (.int (((p2.toUInt32 >>> ((3 : Int32) &&& 31).toUInt32).toInt32) &&& (3 : Int32))), .val (.ref b11_r), .val (.int (own_c0 p1)), .val (.int (1 : Int32)), .val (.int (-1 : Int32))] [(.int (f6 (own_cn p2) b11_r b2_r b4_r b6_r b8_r (own_by (own_ch (own_c0 p0))) (own_by (own_ch (own_c1 p0))) (own_by (own_ch (own_c2 p0))) (own_by (own_ch (own_c3 p0))) (own_by (own_ch (own_c0 p1)))))])) t
                      refine XS.iload X16.here hx rfl (hb hby at_295) rfl ?_
                      refine XS.icmpNo X16.here hx rfl (hb hby at_297) rfl (teq (by rw [own_fin _ (own_c0 p0) (own_c1 p0) (own_c2 p0) (own_c3 p0) (own_c0 p1) _ _ _ _ _ _ _ _ _ _ (own_e _ _ _ _ (own_r0 _) (own_r0 _) (fun q => absurd q (Nat.ne_of_lt (Nat.lt_of_lt_of_le Z10_5.lt szo_b11_r)))) (own_e _ _ _ _ (own_r1 _) (own_r0 _) (fun q => absurd q (Nat.ne_of_lt (Nat.lt_of_lt_of_le Z10_9.lt szo_b11_r)))) (own_e _ _ _ _ (own_r2 _) (own_r0 _) (fun q => absurd q (Nat.ne_of_lt (Nat.lt_of_lt_of_le Z10_13.lt szo_b11_r)))) (own_e _ _ _ _ (own_r3 _) (own_r0 _) (fun q => absurd q (Nat.ne_of_lt (Nat.lt_of_lt_of_le Z10_17.lt szo_b11_r)))) (own_cnt _), own_exp, if_neg (fun q => hc223 q.2), if_neg (fun q => hc242 q.2), if_neg (fun q => hc261 q.2), if_neg (fun q => hc280 q.2)])).2 ?_
                      refine XS.iconst X16.here hx rfl (hb hby at_300) ?_
                      refine XS.goto X16.here hx rfl (pc0 := 301) (pc' := 305) rfl (hb hby at_301) (by decide) (by decide) ?_
                      exact kt
                    refine OGo.retZ X16 hx hlk (t := .boolean) (z' := (1 : Int32)) hret (by simp) (hb hby at_305) rfl ?_ (by decide) (by decide)
                    show Q0 Z p0 p1 p2 w_high w_cache w_COMPACT_STRINGS h0 n0 _ T16.heap _
                    rw [e16]
                    exact ⟨rfl, N16, KC11⟩
                · refine OGo.step (F' := T11.setTop (mkF m 286 #[.val (.int p0), .val (.int p1), .val (.int p2), .val (.int (own_c0 p0)), .val (.int (own_c1 p0)), .val (.int (own_c2 p0)), .val (.int (own_c3 p0)), .val (.ref b1), .val (.int (own_cn p2)), .val (.int (((p2.toUInt32 >>> ((3 : Int32) &&& 31).toUInt32).toInt32) &&& (3 : Int32))), .val (.ref b11_r), .val (.int (own_c0 p1)), .val (.int (1 : Int32)), .val (.int (-1 : Int32))] [])) (fun t kt => ?_) ?_
                  · show Steps p.tables e below (T11.setTop (mkF m 273 #[.val (.int p0), .val (.int p1), .val (.int p2), .val (.int (own_c0 p0)), .val (.int (own_c1 p0)), .val (.int (own_c2 p0)), .val (.int (own_c3 p0)), .val (.ref b1), .val (.int (own_cn p2)), .val (.int (((p2.toUInt32 >>> ((3 : Int32) &&& 31).toUInt32).toInt32) &&& (3 : Int32))), .val (.ref b11_r), .val (.int (own_c0 p1)), .val (.int (1 : Int32)), .val (.int (-1 : Int32))] [(.int (3 : Int32)), (.int (own_cn p2))])) t
                    refine XS.icmpYes X11.here hx rfl (pc0 := 273) (pc' := 286) rfl (hb hby at_273) rfl (flt hc273).2.2.2 (by decide) (by decide) ?_
                    exact kt
                  refine OGo.step (F' := T11.setTop (mkF m 292 #[.val (.int p0), .val (.int p1), .val (.int p2), .val (.int (own_c0 p0)), .val (.int (own_c1 p0)), .val (.int (own_c2 p0)), .val (.int (own_c3 p0)), .val (.ref b1), .val (.int (own_cn p2)), .val (.int (((p2.toUInt32 >>> ((3 : Int32) &&& 31).toUInt32).toInt32) &&& (3 : Int32))), .val (.ref b11_r), .val (.int (own_c0 p1)), .val (.int (1 : Int32)), .val (.int (-1 : Int32))] [(.ref b11_r), (.int (own_cn p2)), (.ref b1)])) (fun t kt => ?_) ?_
                  · show Steps p.tables e below (T11.setTop (mkF m 286 #[.val (.int p0), .val (.int p1), .val (.int p2), .val (.int (own_c0 p0)), .val (.int (own_c1 p0)), .val (.int (own_c2 p0)), .val (.int (own_c3 p0)), .val (.ref b1), .val (.int (own_cn p2)), .val (.int (((p2.toUInt32 >>> ((3 : Int32) &&& 31).toUInt32).toInt32) &&& (3 : Int32))), .val (.ref b11_r), .val (.int (own_c0 p1)), .val (.int (1 : Int32)), .val (.int (-1 : Int32))] [])) t
                    refine XS.aload X11.here hx rfl (hb hby at_286) rfl rfl ?_
                    refine XS.iload X11.here hx rfl (hb hby at_288) rfl ?_
                    refine XS.aload X11.here hx rfl (hb hby at_290) rfl rfl ?_
                    exact kt
                  refine OGo.callS X11 hx hZ (y := (⟨"com/example/kette/kette/JsonObject", "walk", "([Ljava/lang/String;ILjava/lang/Object;)I"⟩ : MethodName)) hown (own_wd hw 28 rfl) (own_wd hw 29 rfl) (own_wd hw 30 rfl) (own_wd hw 31 rfl) (by decide) (rm6 l Z az hw [] b1 (own_cn p2) b11_r k1 b2_r b4_r b6_r b8_r b2_t b4_t b6_t b8_t (own_by (own_ch (own_c0 p0))) (own_by (own_ch (own_c1 p0))) (own_by (own_ch (own_c2 p0))) (own_by (own_ch (own_c3 p0))) b11_t (own_by (own_ch (own_c0 p1))) w_COMPACT_STRINGS T11.heap n0 (Nat.le_trans Z0 KC11.1) (V9.keep K11 nin0) (Z10_5.keep K11) (Z10_6.keep K11 nin0) (Z10_7.keep K11 nin0) (Z10_8.keep K11 nin0) (Z10_9.keep K11) (Z10_10.keep K11 nin0) (Z10_11.keep K11 nin0) (Z10_12.keep K11 nin0) (Z10_13.keep K11) (Z10_14.keep K11 nin0) (Z10_15.keep K11 nin0) (Z10_16.keep K11 nin0) (Z10_17.keep K11) (Z10_18.keep K11 nin0) (Z10_19.keep K11 nin0) (Z10_20.keep K11 nin0) P11_0 P11_1 P11_2 P11_3 hC (own_cnt _) (own_stakeep Z10_4 K11 all0)) (W := 0) (by decide) (by decide) (g := (mkF m 292 #[.val (.int p0), .val (.int p1), .val (.int p2), .val (.int (own_c0 p0)), .val (.int (own_c1 p0)), .val (.int (own_c2 p0)), .val (.int (own_c3 p0)), .val (.ref b1), .val (.int (own_cn p2)), .val (.int (((p2.toUInt32 >>> ((3 : Int32) &&& 31).toUInt32).toInt32) &&& (3 : Int32))), .val (.ref b11_r), .val (.int (own_c0 p1)), .val (.int (1 : Int32)), .val (.int (-1 : Int32))] [(.ref b11_r), (.int (own_cn p2)), (.ref b1)])) rfl (by rw [hml]; rfl) (argsL := [(.ref b1), (.int (own_cn p2)), (.ref b11_r)]) (rest := []) (lenOf pd_0_1 rfl) rfl (by show 2 * 0 + _ ≤ _; exact Nat.le_of_eq rfl) (hb hby at_292) rfl rfl (by decide) (by decide) ?_
                  rintro _ T17 L17 X17 ⟨rfl, Nq17, e17⟩
                  have N17 := Fr.app N11 Nq17
                  show OGo _ _ _ _ _ _ _ (T17.setTop (mkF m 295 #[.val (.int p0), .val (.int p1), .val (.int p2), .val (.int (own_c0 p0)), .val (.int (own_c1 p0)), .val (.int (own_c2 p0)), .val (.int (own_c3 p0)), .val (.ref b1), .val (.int (own_cn p2)), .val (.int (((p2.toUInt32 >>> ((3 : Int32) &&& 31).toUInt32).toInt32) &&& (3 : Int32))), .val (.ref b11_r), .val (.int (own_c0 p1)), .val (.int (1 : Int32)), .val (.int (-1 : Int32))] [(.int (f6 (own_cn p2) b11_r b2_r b4_r b6_r b8_r (own_by (own_ch (own_c0 p0))) (own_by (own_ch (own_c1 p0))) (own_by (own_ch (own_c2 p0))) (own_by (own_ch (own_c3 p0))) (own_by (own_ch (own_c0 p1)))))]))
                  refine OGo.step (F' := T17.setTop (mkF m 305 #[.val (.int p0), .val (.int p1), .val (.int p2), .val (.int (own_c0 p0)), .val (.int (own_c1 p0)), .val (.int (own_c2 p0)), .val (.int (own_c3 p0)), .val (.ref b1), .val (.int (own_cn p2)), .val (.int (((p2.toUInt32 >>> ((3 : Int32) &&& 31).toUInt32).toInt32) &&& (3 : Int32))), .val (.ref b11_r), .val (.int (own_c0 p1)), .val (.int (1 : Int32)), .val (.int (-1 : Int32))] [(.int (1 : Int32))])) (fun t kt => ?_) ?_
                  · show Steps p.tables e below (T17.setTop (mkF m 295 #[.val (.int p0), .val (.int p1), .val (.int p2), .val (.int (own_c0 p0)), .val (.int (own_c1 p0)), .val (.int (own_c2 p0)), .val (.int (own_c3 p0)), .val (.ref b1), .val (.int (own_cn p2)), .val (.int (((p2.toUInt32 >>> ((3 : Int32) &&& 31).toUInt32).toInt32) &&& (3 : Int32))), .val (.ref b11_r), .val (.int (own_c0 p1)), .val (.int (1 : Int32)), .val (.int (-1 : Int32))] [(.int (f6 (own_cn p2) b11_r b2_r b4_r b6_r b8_r (own_by (own_ch (own_c0 p0))) (own_by (own_ch (own_c1 p0))) (own_by (own_ch (own_c2 p0))) (own_by (own_ch (own_c3 p0))) (own_by (own_ch (own_c0 p1)))))])) t
                    refine XS.iload X17.here hx rfl (hb hby at_295) rfl ?_
                    refine XS.icmpNo X17.here hx rfl (hb hby at_297) rfl (teq (by rw [own_fin _ (own_c0 p0) (own_c1 p0) (own_c2 p0) (own_c3 p0) (own_c0 p1) _ _ _ _ _ _ _ _ _ _ (own_e _ _ _ _ (own_r0 _) (own_r0 _) (fun q => absurd q (Nat.ne_of_lt (Nat.lt_of_lt_of_le Z10_5.lt szo_b11_r)))) (own_e _ _ _ _ (own_r1 _) (own_r0 _) (fun q => absurd q (Nat.ne_of_lt (Nat.lt_of_lt_of_le Z10_9.lt szo_b11_r)))) (own_e _ _ _ _ (own_r2 _) (own_r0 _) (fun q => absurd q (Nat.ne_of_lt (Nat.lt_of_lt_of_le Z10_13.lt szo_b11_r)))) (own_e _ _ _ _ (own_r3 _) (own_r0 _) (fun q => absurd q (Nat.ne_of_lt (Nat.lt_of_lt_of_le Z10_17.lt szo_b11_r)))) (own_cnt _), own_exp, if_neg (fun q => hc223 q.2), if_neg (fun q => hc242 q.2), if_neg (fun q => hc261 q.2), if_neg (fun q => hc273 q.1)])).2 ?_
                    refine XS.iconst X17.here hx rfl (hb hby at_300) ?_
                    refine XS.goto X17.here hx rfl (pc0 := 301) (pc' := 305) rfl (hb hby at_301) (by decide) (by decide) ?_
                    exact kt
                  refine OGo.retZ X17 hx hlk (t := .boolean) (z' := (1 : Int32)) hret (by simp) (hb hby at_305) rfl ?_ (by decide) (by decide)
                  show Q0 Z p0 p1 p2 w_high w_cache w_COMPACT_STRINGS h0 n0 _ T17.heap _
                  rw [e17]
                  exact ⟨rfl, N17, KC11⟩
            · refine OGo.step (F' := T11.setTop (mkF m 270 #[.val (.int p0), .val (.int p1), .val (.int p2), .val (.int (own_c0 p0)), .val (.int (own_c1 p0)), .val (.int (own_c2 p0)), .val (.int (own_c3 p0)), .val (.ref b1), .val (.int (own_cn p2)), .val (.int (((p2.toUInt32 >>> ((3 : Int32) &&& 31).toUInt32).toInt32) &&& (3 : Int32))), .val (.ref b11_r), .val (.int (own_c0 p1)), .val (.int (1 : Int32)), .val (.int (-1 : Int32))] [])) (fun t kt => ?_) ?_
              · show Steps p.tables e below (T11.setTop (mkF m 254 #[.val (.int p0), .val (.int p1), .val (.int p2), .val (.int (own_c0 p0)), .val (.int (own_c1 p0)), .val (.int (own_c2 p0)), .val (.int (own_c3 p0)), .val (.ref b1), .val (.int (own_cn p2)), .val (.int (((p2.toUInt32 >>> ((3 : Int32) &&& 31).toUInt32).toInt32) &&& (3 : Int32))), .val (.ref b11_r), .val (.int (own_c0 p1)), .val (.int (1 : Int32)), .val (.int (-1 : Int32))] [(.int (2 : Int32)), (.int (own_cn p2))])) t
                refine XS.icmpYes X11.here hx rfl (pc0 := 254) (pc' := 270) rfl (hb hby at_254) rfl (flt hc254).2.2.2 (by decide) (by decide) ?_
                exact kt
              refine OGo.step (F' := T11.setTop (mkF m 273 #[.val (.int p0), .val (.int p1), .val (.int p2), .val (.int (own_c0 p0)), .val (.int (own_c1 p0)), .val (.int (own_c2 p0)), .val (.int (own_c3 p0)), .val (.ref b1), .val (.int (own_cn p2)), .val (.int (((p2.toUInt32 >>> ((3 : Int32) &&& 31).toUInt32).toInt32) &&& (3 : Int32))), .val (.ref b11_r), .val (.int (own_c0 p1)), .val (.int (1 : Int32)), .val (.int (-1 : Int32))] [(.int (3 : Int32)), (.int (own_cn p2))])) (fun t kt => ?_) ?_
              · show Steps p.tables e below (T11.setTop (mkF m 270 #[.val (.int p0), .val (.int p1), .val (.int p2), .val (.int (own_c0 p0)), .val (.int (own_c1 p0)), .val (.int (own_c2 p0)), .val (.int (own_c3 p0)), .val (.ref b1), .val (.int (own_cn p2)), .val (.int (((p2.toUInt32 >>> ((3 : Int32) &&& 31).toUInt32).toInt32) &&& (3 : Int32))), .val (.ref b11_r), .val (.int (own_c0 p1)), .val (.int (1 : Int32)), .val (.int (-1 : Int32))] [])) t
                refine XS.iload X11.here hx rfl (hb hby at_270) rfl ?_
                refine XS.iconst X11.here hx rfl (hb hby at_272) ?_
                exact kt
              by_cases hc273 : (3 : Int32) < (own_cn p2)
              · refine OGo.step (F' := T11.setTop (mkF m 276 #[.val (.int p0), .val (.int p1), .val (.int p2), .val (.int (own_c0 p0)), .val (.int (own_c1 p0)), .val (.int (own_c2 p0)), .val (.int (own_c3 p0)), .val (.ref b1), .val (.int (own_cn p2)), .val (.int (((p2.toUInt32 >>> ((3 : Int32) &&& 31).toUInt32).toInt32) &&& (3 : Int32))), .val (.ref b11_r), .val (.int (own_c0 p1)), .val (.int (1 : Int32)), .val (.int (-1 : Int32))] [])) (fun t kt => ?_) ?_
                · show Steps p.tables e below (T11.setTop (mkF m 273 #[.val (.int p0), .val (.int p1), .val (.int p2), .val (.int (own_c0 p0)), .val (.int (own_c1 p0)), .val (.int (own_c2 p0)), .val (.int (own_c3 p0)), .val (.ref b1), .val (.int (own_cn p2)), .val (.int (((p2.toUInt32 >>> ((3 : Int32) &&& 31).toUInt32).toInt32) &&& (3 : Int32))), .val (.ref b11_r), .val (.int (own_c0 p1)), .val (.int (1 : Int32)), .val (.int (-1 : Int32))] [(.int (3 : Int32)), (.int (own_cn p2))])) t
                  refine XS.icmpNo X11.here hx rfl (hb hby at_273) rfl (tlt hc273).2.2.2 ?_
                  exact kt
                refine OGo.step (F' := T11.setTop (mkF m 280 #[.val (.int p0), .val (.int p1), .val (.int p2), .val (.int (own_c0 p0)), .val (.int (own_c1 p0)), .val (.int (own_c2 p0)), .val (.int (own_c3 p0)), .val (.ref b1), .val (.int (own_cn p2)), .val (.int (((p2.toUInt32 >>> ((3 : Int32) &&& 31).toUInt32).toInt32) &&& (3 : Int32))), .val (.ref b11_r), .val (.int (own_c0 p1)), .val (.int (1 : Int32)), .val (.int (-1 : Int32))] [(.int (own_c0 p1)), (.int (own_c3 p0))])) (fun t kt => ?_) ?_
                · show Steps p.tables e below (T11.setTop (mkF m 276 #[.val (.int p0), .val (.int p1), .val (.int p2), .val (.int (own_c0 p0)), .val (.int (own_c1 p0)), .val (.int (own_c2 p0)), .val (.int (own_c3 p0)), .val (.ref b1), .val (.int (own_cn p2)), .val (.int (((p2.toUInt32 >>> ((3 : Int32) &&& 31).toUInt32).toInt32) &&& (3 : Int32))), .val (.ref b11_r), .val (.int (own_c0 p1)), .val (.int (1 : Int32)), .val (.int (-1 : Int32))] [])) t
                  refine XS.iload X11.here hx rfl (hb hby at_276) rfl ?_
                  refine XS.iload X11.here hx rfl (hb hby at_278) rfl ?_
                  exact kt
                by_cases hc280 : (own_c3 p0) = (own_c0 p1)
                · refine OGo.step (F' := T11.setTop (mkF m 283 #[.val (.int p0), .val (.int p1), .val (.int p2), .val (.int (own_c0 p0)), .val (.int (own_c1 p0)), .val (.int (own_c2 p0)), .val (.int (own_c3 p0)), .val (.ref b1), .val (.int (own_cn p2)), .val (.int (((p2.toUInt32 >>> ((3 : Int32) &&& 31).toUInt32).toInt32) &&& (3 : Int32))), .val (.ref b11_r), .val (.int (own_c0 p1)), .val (.int (1 : Int32)), .val (.int (-1 : Int32))] [])) (fun t kt => ?_) ?_
                  · show Steps p.tables e below (T11.setTop (mkF m 280 #[.val (.int p0), .val (.int p1), .val (.int p2), .val (.int (own_c0 p0)), .val (.int (own_c1 p0)), .val (.int (own_c2 p0)), .val (.int (own_c3 p0)), .val (.ref b1), .val (.int (own_cn p2)), .val (.int (((p2.toUInt32 >>> ((3 : Int32) &&& 31).toUInt32).toInt32) &&& (3 : Int32))), .val (.ref b11_r), .val (.int (own_c0 p1)), .val (.int (1 : Int32)), .val (.int (-1 : Int32))] [(.int (own_c0 p1)), (.int (own_c3 p0))])) t
                    refine XS.icmpNo X11.here hx rfl (hb hby at_280) rfl (teq hc280).2 ?_
                    exact kt
                  refine OGo.step (F' := T11.setTop (mkF m 292 #[.val (.int p0), .val (.int p1), .val (.int p2), .val (.int (own_c0 p0)), .val (.int (own_c1 p0)), .val (.int (own_c2 p0)), .val (.int (own_c3 p0)), .val (.ref b1), .val (.int (own_cn p2)), .val (.int (((p2.toUInt32 >>> ((3 : Int32) &&& 31).toUInt32).toInt32) &&& (3 : Int32))), .val (.ref b11_r), .val (.int (own_c0 p1)), .val (.int (1 : Int32)), .val (.int (3 : Int32))] [(.ref b11_r), (.int (own_cn p2)), (.ref b1)])) (fun t kt => ?_) ?_
                  · show Steps p.tables e below (T11.setTop (mkF m 283 #[.val (.int p0), .val (.int p1), .val (.int p2), .val (.int (own_c0 p0)), .val (.int (own_c1 p0)), .val (.int (own_c2 p0)), .val (.int (own_c3 p0)), .val (.ref b1), .val (.int (own_cn p2)), .val (.int (((p2.toUInt32 >>> ((3 : Int32) &&& 31).toUInt32).toInt32) &&& (3 : Int32))), .val (.ref b11_r), .val (.int (own_c0 p1)), .val (.int (1 : Int32)), .val (.int (-1 : Int32))] [])) t
                    refine XS.iconst X11.here hx rfl (hb hby at_283) ?_
                    refine XS.istore X11.here hx rfl (hb hby at_284) rfl (l' := #[.val (.int p0), .val (.int p1), .val (.int p2), .val (.int (own_c0 p0)), .val (.int (own_c1 p0)), .val (.int (own_c2 p0)), .val (.int (own_c3 p0)), .val (.ref b1), .val (.int (own_cn p2)), .val (.int (((p2.toUInt32 >>> ((3 : Int32) &&& 31).toUInt32).toInt32) &&& (3 : Int32))), .val (.ref b11_r), .val (.int (own_c0 p1)), .val (.int (1 : Int32)), .val (.int (3 : Int32))]) rfl ?_
                    refine XS.aload X11.here hx rfl (hb hby at_286) rfl rfl ?_
                    refine XS.iload X11.here hx rfl (hb hby at_288) rfl ?_
                    refine XS.aload X11.here hx rfl (hb hby at_290) rfl rfl ?_
                    exact kt
                  refine OGo.callS X11 hx hZ (y := (⟨"com/example/kette/kette/JsonObject", "walk", "([Ljava/lang/String;ILjava/lang/Object;)I"⟩ : MethodName)) hown (own_wd hw 28 rfl) (own_wd hw 29 rfl) (own_wd hw 30 rfl) (own_wd hw 31 rfl) (by decide) (rm6 l Z az hw [] b1 (own_cn p2) b11_r k1 b2_r b4_r b6_r b8_r b2_t b4_t b6_t b8_t (own_by (own_ch (own_c0 p0))) (own_by (own_ch (own_c1 p0))) (own_by (own_ch (own_c2 p0))) (own_by (own_ch (own_c3 p0))) b11_t (own_by (own_ch (own_c0 p1))) w_COMPACT_STRINGS T11.heap n0 (Nat.le_trans Z0 KC11.1) (V9.keep K11 nin0) (Z10_5.keep K11) (Z10_6.keep K11 nin0) (Z10_7.keep K11 nin0) (Z10_8.keep K11 nin0) (Z10_9.keep K11) (Z10_10.keep K11 nin0) (Z10_11.keep K11 nin0) (Z10_12.keep K11 nin0) (Z10_13.keep K11) (Z10_14.keep K11 nin0) (Z10_15.keep K11 nin0) (Z10_16.keep K11 nin0) (Z10_17.keep K11) (Z10_18.keep K11 nin0) (Z10_19.keep K11 nin0) (Z10_20.keep K11 nin0) P11_0 P11_1 P11_2 P11_3 hC (own_cnt _) (own_stakeep Z10_4 K11 all0)) (W := 0) (by decide) (by decide) (g := (mkF m 292 #[.val (.int p0), .val (.int p1), .val (.int p2), .val (.int (own_c0 p0)), .val (.int (own_c1 p0)), .val (.int (own_c2 p0)), .val (.int (own_c3 p0)), .val (.ref b1), .val (.int (own_cn p2)), .val (.int (((p2.toUInt32 >>> ((3 : Int32) &&& 31).toUInt32).toInt32) &&& (3 : Int32))), .val (.ref b11_r), .val (.int (own_c0 p1)), .val (.int (1 : Int32)), .val (.int (3 : Int32))] [(.ref b11_r), (.int (own_cn p2)), (.ref b1)])) rfl (by rw [hml]; rfl) (argsL := [(.ref b1), (.int (own_cn p2)), (.ref b11_r)]) (rest := []) (lenOf pd_0_1 rfl) rfl (by show 2 * 0 + _ ≤ _; exact Nat.le_of_eq rfl) (hb hby at_292) rfl rfl (by decide) (by decide) ?_
                  rintro _ T18 L18 X18 ⟨rfl, Nq18, e18⟩
                  have N18 := Fr.app N11 Nq18
                  show OGo _ _ _ _ _ _ _ (T18.setTop (mkF m 295 #[.val (.int p0), .val (.int p1), .val (.int p2), .val (.int (own_c0 p0)), .val (.int (own_c1 p0)), .val (.int (own_c2 p0)), .val (.int (own_c3 p0)), .val (.ref b1), .val (.int (own_cn p2)), .val (.int (((p2.toUInt32 >>> ((3 : Int32) &&& 31).toUInt32).toInt32) &&& (3 : Int32))), .val (.ref b11_r), .val (.int (own_c0 p1)), .val (.int (1 : Int32)), .val (.int (3 : Int32))] [(.int (f6 (own_cn p2) b11_r b2_r b4_r b6_r b8_r (own_by (own_ch (own_c0 p0))) (own_by (own_ch (own_c1 p0))) (own_by (own_ch (own_c2 p0))) (own_by (own_ch (own_c3 p0))) (own_by (own_ch (own_c0 p1)))))]))
                  refine OGo.step (F' := T18.setTop (mkF m 305 #[.val (.int p0), .val (.int p1), .val (.int p2), .val (.int (own_c0 p0)), .val (.int (own_c1 p0)), .val (.int (own_c2 p0)), .val (.int (own_c3 p0)), .val (.ref b1), .val (.int (own_cn p2)), .val (.int (((p2.toUInt32 >>> ((3 : Int32) &&& 31).toUInt32).toInt32) &&& (3 : Int32))), .val (.ref b11_r), .val (.int (own_c0 p1)), .val (.int (1 : Int32)), .val (.int (3 : Int32))] [(.int (1 : Int32))])) (fun t kt => ?_) ?_
                  · show Steps p.tables e below (T18.setTop (mkF m 295 #[.val (.int p0), .val (.int p1), .val (.int p2), .val (.int (own_c0 p0)), .val (.int (own_c1 p0)), .val (.int (own_c2 p0)), .val (.int (own_c3 p0)), .val (.ref b1), .val (.int (own_cn p2)), .val (.int (((p2.toUInt32 >>> ((3 : Int32) &&& 31).toUInt32).toInt32) &&& (3 : Int32))), .val (.ref b11_r), .val (.int (own_c0 p1)), .val (.int (1 : Int32)), .val (.int (3 : Int32))] [(.int (f6 (own_cn p2) b11_r b2_r b4_r b6_r b8_r (own_by (own_ch (own_c0 p0))) (own_by (own_ch (own_c1 p0))) (own_by (own_ch (own_c2 p0))) (own_by (own_ch (own_c3 p0))) (own_by (own_ch (own_c0 p1)))))])) t
                    refine XS.iload X18.here hx rfl (hb hby at_295) rfl ?_
                    refine XS.icmpNo X18.here hx rfl (hb hby at_297) rfl (teq (by rw [own_fin _ (own_c0 p0) (own_c1 p0) (own_c2 p0) (own_c3 p0) (own_c0 p1) _ _ _ _ _ _ _ _ _ _ (own_e _ _ _ _ (own_r0 _) (own_r0 _) (fun q => absurd q (Nat.ne_of_lt (Nat.lt_of_lt_of_le Z10_5.lt szo_b11_r)))) (own_e _ _ _ _ (own_r1 _) (own_r0 _) (fun q => absurd q (Nat.ne_of_lt (Nat.lt_of_lt_of_le Z10_9.lt szo_b11_r)))) (own_e _ _ _ _ (own_r2 _) (own_r0 _) (fun q => absurd q (Nat.ne_of_lt (Nat.lt_of_lt_of_le Z10_13.lt szo_b11_r)))) (own_e _ _ _ _ (own_r3 _) (own_r0 _) (fun q => absurd q (Nat.ne_of_lt (Nat.lt_of_lt_of_le Z10_17.lt szo_b11_r)))) (own_cnt _), own_exp, if_neg (fun q => hc223 q.2), if_neg (fun q => hc242 q.2), if_neg (fun q => hc254 q.1), if_pos ⟨hc273, hc280⟩])).2 ?_
                    refine XS.iconst X18.here hx rfl (hb hby at_300) ?_
                    refine XS.goto X18.here hx rfl (pc0 := 301) (pc' := 305) rfl (hb hby at_301) (by decide) (by decide) ?_
                    exact kt
                  refine OGo.retZ X18 hx hlk (t := .boolean) (z' := (1 : Int32)) hret (by simp) (hb hby at_305) rfl ?_ (by decide) (by decide)
                  show Q0 Z p0 p1 p2 w_high w_cache w_COMPACT_STRINGS h0 n0 _ T18.heap _
                  rw [e18]
                  exact ⟨rfl, N18, KC11⟩
                · refine OGo.step (F' := T11.setTop (mkF m 286 #[.val (.int p0), .val (.int p1), .val (.int p2), .val (.int (own_c0 p0)), .val (.int (own_c1 p0)), .val (.int (own_c2 p0)), .val (.int (own_c3 p0)), .val (.ref b1), .val (.int (own_cn p2)), .val (.int (((p2.toUInt32 >>> ((3 : Int32) &&& 31).toUInt32).toInt32) &&& (3 : Int32))), .val (.ref b11_r), .val (.int (own_c0 p1)), .val (.int (1 : Int32)), .val (.int (-1 : Int32))] [])) (fun t kt => ?_) ?_
                  · show Steps p.tables e below (T11.setTop (mkF m 280 #[.val (.int p0), .val (.int p1), .val (.int p2), .val (.int (own_c0 p0)), .val (.int (own_c1 p0)), .val (.int (own_c2 p0)), .val (.int (own_c3 p0)), .val (.ref b1), .val (.int (own_cn p2)), .val (.int (((p2.toUInt32 >>> ((3 : Int32) &&& 31).toUInt32).toInt32) &&& (3 : Int32))), .val (.ref b11_r), .val (.int (own_c0 p1)), .val (.int (1 : Int32)), .val (.int (-1 : Int32))] [(.int (own_c0 p1)), (.int (own_c3 p0))])) t
                    refine XS.icmpYes X11.here hx rfl (pc0 := 280) (pc' := 286) rfl (hb hby at_280) rfl (feq hc280).2 (by decide) (by decide) ?_
                    exact kt
                  refine OGo.step (F' := T11.setTop (mkF m 292 #[.val (.int p0), .val (.int p1), .val (.int p2), .val (.int (own_c0 p0)), .val (.int (own_c1 p0)), .val (.int (own_c2 p0)), .val (.int (own_c3 p0)), .val (.ref b1), .val (.int (own_cn p2)), .val (.int (((p2.toUInt32 >>> ((3 : Int32) &&& 31).toUInt32).toInt32) &&& (3 : Int32))), .val (.ref b11_r), .val (.int (own_c0 p1)), .val (.int (1 : Int32)), .val (.int (-1 : Int32))] [(.ref b11_r), (.int (own_cn p2)), (.ref b1)])) (fun t kt => ?_) ?_
                  · show Steps p.tables e below (T11.setTop (mkF m 286 #[.val (.int p0), .val (.int p1), .val (.int p2), .val (.int (own_c0 p0)), .val (.int (own_c1 p0)), .val (.int (own_c2 p0)), .val (.int (own_c3 p0)), .val (.ref b1), .val (.int (own_cn p2)), .val (.int (((p2.toUInt32 >>> ((3 : Int32) &&& 31).toUInt32).toInt32) &&& (3 : Int32))), .val (.ref b11_r), .val (.int (own_c0 p1)), .val (.int (1 : Int32)), .val (.int (-1 : Int32))] [])) t
                    refine XS.aload X11.here hx rfl (hb hby at_286) rfl rfl ?_
                    refine XS.iload X11.here hx rfl (hb hby at_288) rfl ?_
                    refine XS.aload X11.here hx rfl (hb hby at_290) rfl rfl ?_
                    exact kt
                  refine OGo.callS X11 hx hZ (y := (⟨"com/example/kette/kette/JsonObject", "walk", "([Ljava/lang/String;ILjava/lang/Object;)I"⟩ : MethodName)) hown (own_wd hw 28 rfl) (own_wd hw 29 rfl) (own_wd hw 30 rfl) (own_wd hw 31 rfl) (by decide) (rm6 l Z az hw [] b1 (own_cn p2) b11_r k1 b2_r b4_r b6_r b8_r b2_t b4_t b6_t b8_t (own_by (own_ch (own_c0 p0))) (own_by (own_ch (own_c1 p0))) (own_by (own_ch (own_c2 p0))) (own_by (own_ch (own_c3 p0))) b11_t (own_by (own_ch (own_c0 p1))) w_COMPACT_STRINGS T11.heap n0 (Nat.le_trans Z0 KC11.1) (V9.keep K11 nin0) (Z10_5.keep K11) (Z10_6.keep K11 nin0) (Z10_7.keep K11 nin0) (Z10_8.keep K11 nin0) (Z10_9.keep K11) (Z10_10.keep K11 nin0) (Z10_11.keep K11 nin0) (Z10_12.keep K11 nin0) (Z10_13.keep K11) (Z10_14.keep K11 nin0) (Z10_15.keep K11 nin0) (Z10_16.keep K11 nin0) (Z10_17.keep K11) (Z10_18.keep K11 nin0) (Z10_19.keep K11 nin0) (Z10_20.keep K11 nin0) P11_0 P11_1 P11_2 P11_3 hC (own_cnt _) (own_stakeep Z10_4 K11 all0)) (W := 0) (by decide) (by decide) (g := (mkF m 292 #[.val (.int p0), .val (.int p1), .val (.int p2), .val (.int (own_c0 p0)), .val (.int (own_c1 p0)), .val (.int (own_c2 p0)), .val (.int (own_c3 p0)), .val (.ref b1), .val (.int (own_cn p2)), .val (.int (((p2.toUInt32 >>> ((3 : Int32) &&& 31).toUInt32).toInt32) &&& (3 : Int32))), .val (.ref b11_r), .val (.int (own_c0 p1)), .val (.int (1 : Int32)), .val (.int (-1 : Int32))] [(.ref b11_r), (.int (own_cn p2)), (.ref b1)])) rfl (by rw [hml]; rfl) (argsL := [(.ref b1), (.int (own_cn p2)), (.ref b11_r)]) (rest := []) (lenOf pd_0_1 rfl) rfl (by show 2 * 0 + _ ≤ _; exact Nat.le_of_eq rfl) (hb hby at_292) rfl rfl (by decide) (by decide) ?_
                  rintro _ T19 L19 X19 ⟨rfl, Nq19, e19⟩
                  have N19 := Fr.app N11 Nq19
                  show OGo _ _ _ _ _ _ _ (T19.setTop (mkF m 295 #[.val (.int p0), .val (.int p1), .val (.int p2), .val (.int (own_c0 p0)), .val (.int (own_c1 p0)), .val (.int (own_c2 p0)), .val (.int (own_c3 p0)), .val (.ref b1), .val (.int (own_cn p2)), .val (.int (((p2.toUInt32 >>> ((3 : Int32) &&& 31).toUInt32).toInt32) &&& (3 : Int32))), .val (.ref b11_r), .val (.int (own_c0 p1)), .val (.int (1 : Int32)), .val (.int (-1 : Int32))] [(.int (f6 (own_cn p2) b11_r b2_r b4_r b6_r b8_r (own_by (own_ch (own_c0 p0))) (own_by (own_ch (own_c1 p0))) (own_by (own_ch (own_c2 p0))) (own_by (own_ch (own_c3 p0))) (own_by (own_ch (own_c0 p1)))))]))
                  refine OGo.step (F' := T19.setTop (mkF m 305 #[.val (.int p0), .val (.int p1), .val (.int p2), .val (.int (own_c0 p0)), .val (.int (own_c1 p0)), .val (.int (own_c2 p0)), .val (.int (own_c3 p0)), .val (.ref b1), .val (.int (own_cn p2)), .val (.int (((p2.toUInt32 >>> ((3 : Int32) &&& 31).toUInt32).toInt32) &&& (3 : Int32))), .val (.ref b11_r), .val (.int (own_c0 p1)), .val (.int (1 : Int32)), .val (.int (-1 : Int32))] [(.int (1 : Int32))])) (fun t kt => ?_) ?_
                  · show Steps p.tables e below (T19.setTop (mkF m 295 #[.val (.int p0), .val (.int p1), .val (.int p2), .val (.int (own_c0 p0)), .val (.int (own_c1 p0)), .val (.int (own_c2 p0)), .val (.int (own_c3 p0)), .val (.ref b1), .val (.int (own_cn p2)), .val (.int (((p2.toUInt32 >>> ((3 : Int32) &&& 31).toUInt32).toInt32) &&& (3 : Int32))), .val (.ref b11_r), .val (.int (own_c0 p1)), .val (.int (1 : Int32)), .val (.int (-1 : Int32))] [(.int (f6 (own_cn p2) b11_r b2_r b4_r b6_r b8_r (own_by (own_ch (own_c0 p0))) (own_by (own_ch (own_c1 p0))) (own_by (own_ch (own_c2 p0))) (own_by (own_ch (own_c3 p0))) (own_by (own_ch (own_c0 p1)))))])) t
                    refine XS.iload X19.here hx rfl (hb hby at_295) rfl ?_
                    refine XS.icmpNo X19.here hx rfl (hb hby at_297) rfl (teq (by rw [own_fin _ (own_c0 p0) (own_c1 p0) (own_c2 p0) (own_c3 p0) (own_c0 p1) _ _ _ _ _ _ _ _ _ _ (own_e _ _ _ _ (own_r0 _) (own_r0 _) (fun q => absurd q (Nat.ne_of_lt (Nat.lt_of_lt_of_le Z10_5.lt szo_b11_r)))) (own_e _ _ _ _ (own_r1 _) (own_r0 _) (fun q => absurd q (Nat.ne_of_lt (Nat.lt_of_lt_of_le Z10_9.lt szo_b11_r)))) (own_e _ _ _ _ (own_r2 _) (own_r0 _) (fun q => absurd q (Nat.ne_of_lt (Nat.lt_of_lt_of_le Z10_13.lt szo_b11_r)))) (own_e _ _ _ _ (own_r3 _) (own_r0 _) (fun q => absurd q (Nat.ne_of_lt (Nat.lt_of_lt_of_le Z10_17.lt szo_b11_r)))) (own_cnt _), own_exp, if_neg (fun q => hc223 q.2), if_neg (fun q => hc242 q.2), if_neg (fun q => hc254 q.1), if_neg (fun q => hc280 q.2)])).2 ?_
                    refine XS.iconst X19.here hx rfl (hb hby at_300) ?_
                    refine XS.goto X19.here hx rfl (pc0 := 301) (pc' := 305) rfl (hb hby at_301) (by decide) (by decide) ?_
                    exact kt
                  refine OGo.retZ X19 hx hlk (t := .boolean) (z' := (1 : Int32)) hret (by simp) (hb hby at_305) rfl ?_ (by decide) (by decide)
                  show Q0 Z p0 p1 p2 w_high w_cache w_COMPACT_STRINGS h0 n0 _ T19.heap _
                  rw [e19]
                  exact ⟨rfl, N19, KC11⟩
              · refine OGo.step (F' := T11.setTop (mkF m 286 #[.val (.int p0), .val (.int p1), .val (.int p2), .val (.int (own_c0 p0)), .val (.int (own_c1 p0)), .val (.int (own_c2 p0)), .val (.int (own_c3 p0)), .val (.ref b1), .val (.int (own_cn p2)), .val (.int (((p2.toUInt32 >>> ((3 : Int32) &&& 31).toUInt32).toInt32) &&& (3 : Int32))), .val (.ref b11_r), .val (.int (own_c0 p1)), .val (.int (1 : Int32)), .val (.int (-1 : Int32))] [])) (fun t kt => ?_) ?_
                · show Steps p.tables e below (T11.setTop (mkF m 273 #[.val (.int p0), .val (.int p1), .val (.int p2), .val (.int (own_c0 p0)), .val (.int (own_c1 p0)), .val (.int (own_c2 p0)), .val (.int (own_c3 p0)), .val (.ref b1), .val (.int (own_cn p2)), .val (.int (((p2.toUInt32 >>> ((3 : Int32) &&& 31).toUInt32).toInt32) &&& (3 : Int32))), .val (.ref b11_r), .val (.int (own_c0 p1)), .val (.int (1 : Int32)), .val (.int (-1 : Int32))] [(.int (3 : Int32)), (.int (own_cn p2))])) t
                  refine XS.icmpYes X11.here hx rfl (pc0 := 273) (pc' := 286) rfl (hb hby at_273) rfl (flt hc273).2.2.2 (by decide) (by decide) ?_
                  exact kt
                refine OGo.step (F' := T11.setTop (mkF m 292 #[.val (.int p0), .val (.int p1), .val (.int p2), .val (.int (own_c0 p0)), .val (.int (own_c1 p0)), .val (.int (own_c2 p0)), .val (.int (own_c3 p0)), .val (.ref b1), .val (.int (own_cn p2)), .val (.int (((p2.toUInt32 >>> ((3 : Int32) &&& 31).toUInt32).toInt32) &&& (3 : Int32))), .val (.ref b11_r), .val (.int (own_c0 p1)), .val (.int (1 : Int32)), .val (.int (-1 : Int32))] [(.ref b11_r), (.int (own_cn p2)), (.ref b1)])) (fun t kt => ?_) ?_
                · show Steps p.tables e below (T11.setTop (mkF m 286 #[.val (.int p0), .val (.int p1), .val (.int p2), .val (.int (own_c0 p0)), .val (.int (own_c1 p0)), .val (.int (own_c2 p0)), .val (.int (own_c3 p0)), .val (.ref b1), .val (.int (own_cn p2)), .val (.int (((p2.toUInt32 >>> ((3 : Int32) &&& 31).toUInt32).toInt32) &&& (3 : Int32))), .val (.ref b11_r), .val (.int (own_c0 p1)), .val (.int (1 : Int32)), .val (.int (-1 : Int32))] [])) t
                  refine XS.aload X11.here hx rfl (hb hby at_286) rfl rfl ?_
                  refine XS.iload X11.here hx rfl (hb hby at_288) rfl ?_
                  refine XS.aload X11.here hx rfl (hb hby at_290) rfl rfl ?_
                  exact kt
                refine OGo.callS X11 hx hZ (y := (⟨"com/example/kette/kette/JsonObject", "walk", "([Ljava/lang/String;ILjava/lang/Object;)I"⟩ : MethodName)) hown (own_wd hw 28 rfl) (own_wd hw 29 rfl) (own_wd hw 30 rfl) (own_wd hw 31 rfl) (by decide) (rm6 l Z az hw [] b1 (own_cn p2) b11_r k1 b2_r b4_r b6_r b8_r b2_t b4_t b6_t b8_t (own_by (own_ch (own_c0 p0))) (own_by (own_ch (own_c1 p0))) (own_by (own_ch (own_c2 p0))) (own_by (own_ch (own_c3 p0))) b11_t (own_by (own_ch (own_c0 p1))) w_COMPACT_STRINGS T11.heap n0 (Nat.le_trans Z0 KC11.1) (V9.keep K11 nin0) (Z10_5.keep K11) (Z10_6.keep K11 nin0) (Z10_7.keep K11 nin0) (Z10_8.keep K11 nin0) (Z10_9.keep K11) (Z10_10.keep K11 nin0) (Z10_11.keep K11 nin0) (Z10_12.keep K11 nin0) (Z10_13.keep K11) (Z10_14.keep K11 nin0) (Z10_15.keep K11 nin0) (Z10_16.keep K11 nin0) (Z10_17.keep K11) (Z10_18.keep K11 nin0) (Z10_19.keep K11 nin0) (Z10_20.keep K11 nin0) P11_0 P11_1 P11_2 P11_3 hC (own_cnt _) (own_stakeep Z10_4 K11 all0)) (W := 0) (by decide) (by decide) (g := (mkF m 292 #[.val (.int p0), .val (.int p1), .val (.int p2), .val (.int (own_c0 p0)), .val (.int (own_c1 p0)), .val (.int (own_c2 p0)), .val (.int (own_c3 p0)), .val (.ref b1), .val (.int (own_cn p2)), .val (.int (((p2.toUInt32 >>> ((3 : Int32) &&& 31).toUInt32).toInt32) &&& (3 : Int32))), .val (.ref b11_r), .val (.int (own_c0 p1)), .val (.int (1 : Int32)), .val (.int (-1 : Int32))] [(.ref b11_r), (.int (own_cn p2)), (.ref b1)])) rfl (by rw [hml]; rfl) (argsL := [(.ref b1), (.int (own_cn p2)), (.ref b11_r)]) (rest := []) (lenOf pd_0_1 rfl) rfl (by show 2 * 0 + _ ≤ _; exact Nat.le_of_eq rfl) (hb hby at_292) rfl rfl (by decide) (by decide) ?_
                rintro _ T20 L20 X20 ⟨rfl, Nq20, e20⟩
                have N20 := Fr.app N11 Nq20
                show OGo _ _ _ _ _ _ _ (T20.setTop (mkF m 295 #[.val (.int p0), .val (.int p1), .val (.int p2), .val (.int (own_c0 p0)), .val (.int (own_c1 p0)), .val (.int (own_c2 p0)), .val (.int (own_c3 p0)), .val (.ref b1), .val (.int (own_cn p2)), .val (.int (((p2.toUInt32 >>> ((3 : Int32) &&& 31).toUInt32).toInt32) &&& (3 : Int32))), .val (.ref b11_r), .val (.int (own_c0 p1)), .val (.int (1 : Int32)), .val (.int (-1 : Int32))] [(.int (f6 (own_cn p2) b11_r b2_r b4_r b6_r b8_r (own_by (own_ch (own_c0 p0))) (own_by (own_ch (own_c1 p0))) (own_by (own_ch (own_c2 p0))) (own_by (own_ch (own_c3 p0))) (own_by (own_ch (own_c0 p1)))))]))
                refine OGo.step (F' := T20.setTop (mkF m 305 #[.val (.int p0), .val (.int p1), .val (.int p2), .val (.int (own_c0 p0)), .val (.int (own_c1 p0)), .val (.int (own_c2 p0)), .val (.int (own_c3 p0)), .val (.ref b1), .val (.int (own_cn p2)), .val (.int (((p2.toUInt32 >>> ((3 : Int32) &&& 31).toUInt32).toInt32) &&& (3 : Int32))), .val (.ref b11_r), .val (.int (own_c0 p1)), .val (.int (1 : Int32)), .val (.int (-1 : Int32))] [(.int (1 : Int32))])) (fun t kt => ?_) ?_
                · show Steps p.tables e below (T20.setTop (mkF m 295 #[.val (.int p0), .val (.int p1), .val (.int p2), .val (.int (own_c0 p0)), .val (.int (own_c1 p0)), .val (.int (own_c2 p0)), .val (.int (own_c3 p0)), .val (.ref b1), .val (.int (own_cn p2)), .val (.int (((p2.toUInt32 >>> ((3 : Int32) &&& 31).toUInt32).toInt32) &&& (3 : Int32))), .val (.ref b11_r), .val (.int (own_c0 p1)), .val (.int (1 : Int32)), .val (.int (-1 : Int32))] [(.int (f6 (own_cn p2) b11_r b2_r b4_r b6_r b8_r (own_by (own_ch (own_c0 p0))) (own_by (own_ch (own_c1 p0))) (own_by (own_ch (own_c2 p0))) (own_by (own_ch (own_c3 p0))) (own_by (own_ch (own_c0 p1)))))])) t
                  refine XS.iload X20.here hx rfl (hb hby at_295) rfl ?_
                  refine XS.icmpNo X20.here hx rfl (hb hby at_297) rfl (teq (by rw [own_fin _ (own_c0 p0) (own_c1 p0) (own_c2 p0) (own_c3 p0) (own_c0 p1) _ _ _ _ _ _ _ _ _ _ (own_e _ _ _ _ (own_r0 _) (own_r0 _) (fun q => absurd q (Nat.ne_of_lt (Nat.lt_of_lt_of_le Z10_5.lt szo_b11_r)))) (own_e _ _ _ _ (own_r1 _) (own_r0 _) (fun q => absurd q (Nat.ne_of_lt (Nat.lt_of_lt_of_le Z10_9.lt szo_b11_r)))) (own_e _ _ _ _ (own_r2 _) (own_r0 _) (fun q => absurd q (Nat.ne_of_lt (Nat.lt_of_lt_of_le Z10_13.lt szo_b11_r)))) (own_e _ _ _ _ (own_r3 _) (own_r0 _) (fun q => absurd q (Nat.ne_of_lt (Nat.lt_of_lt_of_le Z10_17.lt szo_b11_r)))) (own_cnt _), own_exp, if_neg (fun q => hc223 q.2), if_neg (fun q => hc242 q.2), if_neg (fun q => hc254 q.1), if_neg (fun q => hc273 q.1)])).2 ?_
                  refine XS.iconst X20.here hx rfl (hb hby at_300) ?_
                  refine XS.goto X20.here hx rfl (pc0 := 301) (pc' := 305) rfl (hb hby at_301) (by decide) (by decide) ?_
                  exact kt
                refine OGo.retZ X20 hx hlk (t := .boolean) (z' := (1 : Int32)) hret (by simp) (hb hby at_305) rfl ?_ (by decide) (by decide)
                show Q0 Z p0 p1 p2 w_high w_cache w_COMPACT_STRINGS h0 n0 _ T20.heap _
                rw [e20]
                exact ⟨rfl, N20, KC11⟩
        · refine OGo.step (F' := T11.setTop (mkF m 251 #[.val (.int p0), .val (.int p1), .val (.int p2), .val (.int (own_c0 p0)), .val (.int (own_c1 p0)), .val (.int (own_c2 p0)), .val (.int (own_c3 p0)), .val (.ref b1), .val (.int (own_cn p2)), .val (.int (((p2.toUInt32 >>> ((3 : Int32) &&& 31).toUInt32).toInt32) &&& (3 : Int32))), .val (.ref b11_r), .val (.int (own_c0 p1)), .val (.int (1 : Int32)), .val (.int (-1 : Int32))] [])) (fun t kt => ?_) ?_
          · show Steps p.tables e below (T11.setTop (mkF m 235 #[.val (.int p0), .val (.int p1), .val (.int p2), .val (.int (own_c0 p0)), .val (.int (own_c1 p0)), .val (.int (own_c2 p0)), .val (.int (own_c3 p0)), .val (.ref b1), .val (.int (own_cn p2)), .val (.int (((p2.toUInt32 >>> ((3 : Int32) &&& 31).toUInt32).toInt32) &&& (3 : Int32))), .val (.ref b11_r), .val (.int (own_c0 p1)), .val (.int (1 : Int32)), .val (.int (-1 : Int32))] [(.int (1 : Int32)), (.int (own_cn p2))])) t
            refine XS.icmpYes X11.here hx rfl (pc0 := 235) (pc' := 251) rfl (hb hby at_235) rfl (flt hc235).2.2.2 (by decide) (by decide) ?_
            exact kt
          refine OGo.step (F' := T11.setTop (mkF m 254 #[.val (.int p0), .val (.int p1), .val (.int p2), .val (.int (own_c0 p0)), .val (.int (own_c1 p0)), .val (.int (own_c2 p0)), .val (.int (own_c3 p0)), .val (.ref b1), .val (.int (own_cn p2)), .val (.int (((p2.toUInt32 >>> ((3 : Int32) &&& 31).toUInt32).toInt32) &&& (3 : Int32))), .val (.ref b11_r), .val (.int (own_c0 p1)), .val (.int (1 : Int32)), .val (.int (-1 : Int32))] [(.int (2 : Int32)), (.int (own_cn p2))])) (fun t kt => ?_) ?_
          · show Steps p.tables e below (T11.setTop (mkF m 251 #[.val (.int p0), .val (.int p1), .val (.int p2), .val (.int (own_c0 p0)), .val (.int (own_c1 p0)), .val (.int (own_c2 p0)), .val (.int (own_c3 p0)), .val (.ref b1), .val (.int (own_cn p2)), .val (.int (((p2.toUInt32 >>> ((3 : Int32) &&& 31).toUInt32).toInt32) &&& (3 : Int32))), .val (.ref b11_r), .val (.int (own_c0 p1)), .val (.int (1 : Int32)), .val (.int (-1 : Int32))] [])) t
            refine XS.iload X11.here hx rfl (hb hby at_251) rfl ?_
            refine XS.iconst X11.here hx rfl (hb hby at_253) ?_
            exact kt
          by_cases hc254 : (2 : Int32) < (own_cn p2)
          · refine OGo.step (F' := T11.setTop (mkF m 257 #[.val (.int p0), .val (.int p1), .val (.int p2), .val (.int (own_c0 p0)), .val (.int (own_c1 p0)), .val (.int (own_c2 p0)), .val (.int (own_c3 p0)), .val (.ref b1), .val (.int (own_cn p2)), .val (.int (((p2.toUInt32 >>> ((3 : Int32) &&& 31).toUInt32).toInt32) &&& (3 : Int32))), .val (.ref b11_r), .val (.int (own_c0 p1)), .val (.int (1 : Int32)), .val (.int (-1 : Int32))] [])) (fun t kt => ?_) ?_
            · show Steps p.tables e below (T11.setTop (mkF m 254 #[.val (.int p0), .val (.int p1), .val (.int p2), .val (.int (own_c0 p0)), .val (.int (own_c1 p0)), .val (.int (own_c2 p0)), .val (.int (own_c3 p0)), .val (.ref b1), .val (.int (own_cn p2)), .val (.int (((p2.toUInt32 >>> ((3 : Int32) &&& 31).toUInt32).toInt32) &&& (3 : Int32))), .val (.ref b11_r), .val (.int (own_c0 p1)), .val (.int (1 : Int32)), .val (.int (-1 : Int32))] [(.int (2 : Int32)), (.int (own_cn p2))])) t
              refine XS.icmpNo X11.here hx rfl (hb hby at_254) rfl (tlt hc254).2.2.2 ?_
              exact kt
            refine OGo.step (F' := T11.setTop (mkF m 261 #[.val (.int p0), .val (.int p1), .val (.int p2), .val (.int (own_c0 p0)), .val (.int (own_c1 p0)), .val (.int (own_c2 p0)), .val (.int (own_c3 p0)), .val (.ref b1), .val (.int (own_cn p2)), .val (.int (((p2.toUInt32 >>> ((3 : Int32) &&& 31).toUInt32).toInt32) &&& (3 : Int32))), .val (.ref b11_r), .val (.int (own_c0 p1)), .val (.int (1 : Int32)), .val (.int (-1 : Int32))] [(.int (own_c0 p1)), (.int (own_c2 p0))])) (fun t kt => ?_) ?_
            · show Steps p.tables e below (T11.setTop (mkF m 257 #[.val (.int p0), .val (.int p1), .val (.int p2), .val (.int (own_c0 p0)), .val (.int (own_c1 p0)), .val (.int (own_c2 p0)), .val (.int (own_c3 p0)), .val (.ref b1), .val (.int (own_cn p2)), .val (.int (((p2.toUInt32 >>> ((3 : Int32) &&& 31).toUInt32).toInt32) &&& (3 : Int32))), .val (.ref b11_r), .val (.int (own_c0 p1)), .val (.int (1 : Int32)), .val (.int (-1 : Int32))] [])) t
              refine XS.iload X11.here hx rfl (hb hby at_257) rfl ?_
              refine XS.iload X11.here hx rfl (hb hby at_259) rfl ?_
              exact kt
            by_cases hc261 : (own_c2 p0) = (own_c0 p1)
            · refine OGo.step (F' := T11.setTop (mkF m 264 #[.val (.int p0), .val (.int p1), .val (.int p2), .val (.int (own_c0 p0)), .val (.int (own_c1 p0)), .val (.int (own_c2 p0)), .val (.int (own_c3 p0)), .val (.ref b1), .val (.int (own_cn p2)), .val (.int (((p2.toUInt32 >>> ((3 : Int32) &&& 31).toUInt32).toInt32) &&& (3 : Int32))), .val (.ref b11_r), .val (.int (own_c0 p1)), .val (.int (1 : Int32)), .val (.int (-1 : Int32))] [])) (fun t kt => ?_) ?_
              · show Steps p.tables e below (T11.setTop (mkF m 261 #[.val (.int p0), .val (.int p1), .val (.int p2), .val (.int (own_c0 p0)), .val (.int (own_c1 p0)), .val (.int (own_c2 p0)), .val (.int (own_c3 p0)), .val (.ref b1), .val (.int (own_cn p2)), .val (.int (((p2.toUInt32 >>> ((3 : Int32) &&& 31).toUInt32).toInt32) &&& (3 : Int32))), .val (.ref b11_r), .val (.int (own_c0 p1)), .val (.int (1 : Int32)), .val (.int (-1 : Int32))] [(.int (own_c0 p1)), (.int (own_c2 p0))])) t
                refine XS.icmpNo X11.here hx rfl (hb hby at_261) rfl (teq hc261).2 ?_
                exact kt
              refine OGo.step (F' := T11.setTop (mkF m 292 #[.val (.int p0), .val (.int p1), .val (.int p2), .val (.int (own_c0 p0)), .val (.int (own_c1 p0)), .val (.int (own_c2 p0)), .val (.int (own_c3 p0)), .val (.ref b1), .val (.int (own_cn p2)), .val (.int (((p2.toUInt32 >>> ((3 : Int32) &&& 31).toUInt32).toInt32) &&& (3 : Int32))), .val (.ref b11_r), .val (.int (own_c0 p1)), .val (.int (1 : Int32)), .val (.int (2 : Int32))] [(.ref b11_r), (.int (own_cn p2)), (.ref b1)])) (fun t kt => ?_) ?_
              · show Steps p.tables e below (T11.setTop (mkF m 264 #[.val (.int p0), .val (.int p1), .val (.int p2), .val (.int (own_c0 p0)), .val (.int (own_c1 p0)), .val (.int (own_c2 p0)), .val (.int (own_c3 p0)), .val (.ref b1), .val (.int (own_cn p2)), .val (.int (((p2.toUInt32 >>> ((3 : Int32) &&& 31).toUInt32).toInt32) &&& (3 : Int32))), .val (.ref b11_r), .val (.int (own_c0 p1)), .val (.int (1 : Int32)), .val (.int (-1 : Int32))] [])) t
                refine XS.iconst X11.here hx rfl (hb hby at_264) ?_
                refine XS.istore X11.here hx rfl (hb hby at_265) rfl (l' := #[.val (.int p0), .val (.int p1), .val (.int p2), .val (.int (own_c0 p0)), .val (.int (own_c1 p0)), .val (.int (own_c2 p0)), .val (.int (own_c3 p0)), .val (.ref b1), .val (.int (own_cn p2)), .val (.int (((p2.toUInt32 >>> ((3 : Int32) &&& 31).toUInt32).toInt32) &&& (3 : Int32))), .val (.ref b11_r), .val (.int (own_c0 p1)), .val (.int (1 : Int32)), .val (.int (2 : Int32))]) rfl ?_
                refine XS.goto X11.here hx rfl (pc0 := 267) (pc' := 286) rfl (hb hby at_267) (by decide) (by decide) ?_
                refine XS.aload X11.here hx rfl (hb hby at_286) rfl rfl ?_
                refine XS.iload X11.here hx rfl (hb hby at_288) rfl ?_
                refine XS.aload X11.here hx rfl (hb hby at_290) rfl rfl ?_
                exact kt
              refine OGo.callS X11 hx hZ (y := (⟨"com/example/kette/kette/JsonObject", "walk", "([Ljava/lang/String;ILjava/lang/Object;)I"⟩ : MethodName)) hown (own_wd hw 28 rfl) (own_wd hw 29 rfl) (own_wd hw 30 rfl) (own_wd hw 31 rfl) (by decide) (rm6 l Z az hw [] b1 (own_cn p2) b11_r k1 b2_r b4_r b6_r b8_r b2_t b4_t b6_t b8_t (own_by (own_ch (own_c0 p0))) (own_by (own_ch (own_c1 p0))) (own_by (own_ch (own_c2 p0))) (own_by (own_ch (own_c3 p0))) b11_t (own_by (own_ch (own_c0 p1))) w_COMPACT_STRINGS T11.heap n0 (Nat.le_trans Z0 KC11.1) (V9.keep K11 nin0) (Z10_5.keep K11) (Z10_6.keep K11 nin0) (Z10_7.keep K11 nin0) (Z10_8.keep K11 nin0) (Z10_9.keep K11) (Z10_10.keep K11 nin0) (Z10_11.keep K11 nin0) (Z10_12.keep K11 nin0) (Z10_13.keep K11) (Z10_14.keep K11 nin0) (Z10_15.keep K11 nin0) (Z10_16.keep K11 nin0) (Z10_17.keep K11) (Z10_18.keep K11 nin0) (Z10_19.keep K11 nin0) (Z10_20.keep K11 nin0) P11_0 P11_1 P11_2 P11_3 hC (own_cnt _) (own_stakeep Z10_4 K11 all0)) (W := 0) (by decide) (by decide) (g := (mkF m 292 #[.val (.int p0), .val (.int p1), .val (.int p2), .val (.int (own_c0 p0)), .val (.int (own_c1 p0)), .val (.int (own_c2 p0)), .val (.int (own_c3 p0)), .val (.ref b1), .val (.int (own_cn p2)), .val (.int (((p2.toUInt32 >>> ((3 : Int32) &&& 31).toUInt32).toInt32) &&& (3 : Int32))), .val (.ref b11_r), .val (.int (own_c0 p1)), .val (.int (1 : Int32)), .val (.int (2 : Int32))] [(.ref b11_r), (.int (own_cn p2)), (.ref b1)])) rfl (by rw [hml]; rfl) (argsL := [(.ref b1), (.int (own_cn p2)), (.ref b11_r)]) (rest := []) (lenOf pd_0_1 rfl) rfl (by show 2 * 0 + _ ≤ _; exact Nat.le_of_eq rfl) (hb hby at_292) rfl rfl (by decide) (by decide) ?_
              rintro _ T21 L21 X21 ⟨rfl, Nq21, e21⟩
              have N21 := Fr.app N11 Nq21
              show OGo _ _ _ _ _ _ _ (T21.setTop (mkF m 295 #[.val (.int p0), .val (.int p1), .val (.int p2), .val (.int (own_c0 p0)), .val (.int (own_c1 p0)), .val (.int (own_c2 p0)), .val (.int (own_c3 p0)), .val (.ref b1), .val (.int (own_cn p2)), .val (.int (((p2.toUInt32 >>> ((3 : Int32) &&& 31).toUInt32).toInt32) &&& (3 : Int32))), .val (.ref b11_r), .val (.int (own_c0 p1)), .val (.int (1 : Int32)), .val (.int (2 : Int32))] [(.int (f6 (own_cn p2) b11_r b2_r b4_r b6_r b8_r (own_by (own_ch (own_c0 p0))) (own_by (own_ch (own_c1 p0))) (own_by (own_ch (own_c2 p0))) (own_by (own_ch (own_c3 p0))) (own_by (own_ch (own_c0 p1)))))]))
              refine OGo.step (F' := T21.setTop (mkF m 305 #[.val (.int p0), .val (.int p1), .val (.int p2), .val (.int (own_c0 p0)), .val (.int (own_c1 p0)), .val (.int (own_c2 p0)), .val (.int (own_c3 p0)), .val (.ref b1), .val (.int (own_cn p2)), .val (.int (((p2.toUInt32 >>> ((3 : Int32) &&& 31).toUInt32).toInt32) &&& (3 : Int32))), .val (.ref b11_r), .val (.int (own_c0 p1)), .val (.int (1 : Int32)), .val (.int (2 : Int32))] [(.int (1 : Int32))])) (fun t kt => ?_) ?_
              · show Steps p.tables e below (T21.setTop (mkF m 295 #[.val (.int p0), .val (.int p1), .val (.int p2), .val (.int (own_c0 p0)), .val (.int (own_c1 p0)), .val (.int (own_c2 p0)), .val (.int (own_c3 p0)), .val (.ref b1), .val (.int (own_cn p2)), .val (.int (((p2.toUInt32 >>> ((3 : Int32) &&& 31).toUInt32).toInt32) &&& (3 : Int32))), .val (.ref b11_r), .val (.int (own_c0 p1)), .val (.int (1 : Int32)), .val (.int (2 : Int32))] [(.int (f6 (own_cn p2) b11_r b2_r b4_r b6_r b8_r (own_by (own_ch (own_c0 p0))) (own_by (own_ch (own_c1 p0))) (own_by (own_ch (own_c2 p0))) (own_by (own_ch (own_c3 p0))) (own_by (own_ch (own_c0 p1)))))])) t
                refine XS.iload X21.here hx rfl (hb hby at_295) rfl ?_
                refine XS.icmpNo X21.here hx rfl (hb hby at_297) rfl (teq (by rw [own_fin _ (own_c0 p0) (own_c1 p0) (own_c2 p0) (own_c3 p0) (own_c0 p1) _ _ _ _ _ _ _ _ _ _ (own_e _ _ _ _ (own_r0 _) (own_r0 _) (fun q => absurd q (Nat.ne_of_lt (Nat.lt_of_lt_of_le Z10_5.lt szo_b11_r)))) (own_e _ _ _ _ (own_r1 _) (own_r0 _) (fun q => absurd q (Nat.ne_of_lt (Nat.lt_of_lt_of_le Z10_9.lt szo_b11_r)))) (own_e _ _ _ _ (own_r2 _) (own_r0 _) (fun q => absurd q (Nat.ne_of_lt (Nat.lt_of_lt_of_le Z10_13.lt szo_b11_r)))) (own_e _ _ _ _ (own_r3 _) (own_r0 _) (fun q => absurd q (Nat.ne_of_lt (Nat.lt_of_lt_of_le Z10_17.lt szo_b11_r)))) (own_cnt _), own_exp, if_neg (fun q => hc223 q.2), if_neg (fun q => hc235 q.1), if_pos ⟨hc254, hc261⟩])).2 ?_
                refine XS.iconst X21.here hx rfl (hb hby at_300) ?_
                refine XS.goto X21.here hx rfl (pc0 := 301) (pc' := 305) rfl (hb hby at_301) (by decide) (by decide) ?_
                exact kt
              refine OGo.retZ X21 hx hlk (t := .boolean) (z' := (1 : Int32)) hret (by simp) (hb hby at_305) rfl ?_ (by decide) (by decide)
              show Q0 Z p0 p1 p2 w_high w_cache w_COMPACT_STRINGS h0 n0 _ T21.heap _
              rw [e21]
              exact ⟨rfl, N21, KC11⟩
            · refine OGo.step (F' := T11.setTop (mkF m 270 #[.val (.int p0), .val (.int p1), .val (.int p2), .val (.int (own_c0 p0)), .val (.int (own_c1 p0)), .val (.int (own_c2 p0)), .val (.int (own_c3 p0)), .val (.ref b1), .val (.int (own_cn p2)), .val (.int (((p2.toUInt32 >>> ((3 : Int32) &&& 31).toUInt32).toInt32) &&& (3 : Int32))), .val (.ref b11_r), .val (.int (own_c0 p1)), .val (.int (1 : Int32)), .val (.int (-1 : Int32))] [])) (fun t kt => ?_) ?_
              · show Steps p.tables e below (T11.setTop (mkF m 261 #[.val (.int p0), .val (.int p1), .val (.int p2), .val (.int (own_c0 p0)), .val (.int (own_c1 p0)), .val (.int (own_c2 p0)), .val (.int (own_c3 p0)), .val (.ref b1), .val (.int (own_cn p2)), .val (.int (((p2.toUInt32 >>> ((3 : Int32) &&& 31).toUInt32).toInt32) &&& (3 : Int32))), .val (.ref b11_r), .val (.int (own_c0 p1)), .val (.int (1 : Int32)), .val (.int (-1 : Int32))] [(.int (own_c0 p1)), (.int (own_c2 p0))])) t
                refine XS.icmpYes X11.here hx rfl (pc0 := 261) (pc' := 270) rfl (hb hby at_261) rfl (feq hc261).2 (by decide) (by decide) ?_
                exact kt
              refine OGo.step (F' := T11.setTop (mkF m 273 #[.val (.int p0), .val (.int p1), .val (.int p2), .val (.int (own_c0 p0)), .val (.int (own_c1 p0)), .val (.int (own_c2 p0)), .val (.int (own_c3 p0)), .val (.ref b1), .val (.int (own_cn p2)), .val (.int (((p2.toUInt32 >>> ((3 : Int32) &&& 31).toUInt32).toInt32) &&& (3 : Int32))), .val (.ref b11_r), .val (.int (own_c0 p1)), .val (.int (1 : Int32)), .val (.int (-1 : Int32))] [(.int (3 : Int32)), (.int (own_cn p2))])) (fun t kt => ?_) ?_
              · show Steps p.tables e below (T11.setTop (mkF m 270 #[.val (.int p0), .val (.int p1), .val (.int p2), .val (.int (own_c0 p0)), .val (.int (own_c1 p0)), .val (.int (own_c2 p0)), .val (.int (own_c3 p0)), .val (.ref b1), .val (.int (own_cn p2)), .val (.int (((p2.toUInt32 >>> ((3 : Int32) &&& 31).toUInt32).toInt32) &&& (3 : Int32))), .val (.ref b11_r), .val (.int (own_c0 p1)), .val (.int (1 : Int32)), .val (.int (-1 : Int32))] [])) t
                refine XS.iload X11.here hx rfl (hb hby at_270) rfl ?_
                refine XS.iconst X11.here hx rfl (hb hby at_272) ?_
                exact kt
              by_cases hc273 : (3 : Int32) < (own_cn p2)
              · refine OGo.step (F' := T11.setTop (mkF m 276 #[.val (.int p0), .val (.int p1), .val (.int p2), .val (.int (own_c0 p0)), .val (.int (own_c1 p0)), .val (.int (own_c2 p0)), .val (.int (own_c3 p0)), .val (.ref b1), .val (.int (own_cn p2)), .val (.int (((p2.toUInt32 >>> ((3 : Int32) &&& 31).toUInt32).toInt32) &&& (3 : Int32))), .val (.ref b11_r), .val (.int (own_c0 p1)), .val (.int (1 : Int32)), .val (.int (-1 : Int32))] [])) (fun t kt => ?_) ?_
                · show Steps p.tables e below (T11.setTop (mkF m 273 #[.val (.int p0), .val (.int p1), .val (.int p2), .val (.int (own_c0 p0)), .val (.int (own_c1 p0)), .val (.int (own_c2 p0)), .val (.int (own_c3 p0)), .val (.ref b1), .val (.int (own_cn p2)), .val (.int (((p2.toUInt32 >>> ((3 : Int32) &&& 31).toUInt32).toInt32) &&& (3 : Int32))), .val (.ref b11_r), .val (.int (own_c0 p1)), .val (.int (1 : Int32)), .val (.int (-1 : Int32))] [(.int (3 : Int32)), (.int (own_cn p2))])) t
                  refine XS.icmpNo X11.here hx rfl (hb hby at_273) rfl (tlt hc273).2.2.2 ?_
                  exact kt
                refine OGo.step (F' := T11.setTop (mkF m 280 #[.val (.int p0), .val (.int p1), .val (.int p2), .val (.int (own_c0 p0)), .val (.int (own_c1 p0)), .val (.int (own_c2 p0)), .val (.int (own_c3 p0)), .val (.ref b1), .val (.int (own_cn p2)), .val (.int (((p2.toUInt32 >>> ((3 : Int32) &&& 31).toUInt32).toInt32) &&& (3 : Int32))), .val (.ref b11_r), .val (.int (own_c0 p1)), .val (.int (1 : Int32)), .val (.int (-1 : Int32))] [(.int (own_c0 p1)), (.int (own_c3 p0))])) (fun t kt => ?_) ?_
                · show Steps p.tables e below (T11.setTop (mkF m 276 #[.val (.int p0), .val (.int p1), .val (.int p2), .val (.int (own_c0 p0)), .val (.int (own_c1 p0)), .val (.int (own_c2 p0)), .val (.int (own_c3 p0)), .val (.ref b1), .val (.int (own_cn p2)), .val (.int (((p2.toUInt32 >>> ((3 : Int32) &&& 31).toUInt32).toInt32) &&& (3 : Int32))), .val (.ref b11_r), .val (.int (own_c0 p1)), .val (.int (1 : Int32)), .val (.int (-1 : Int32))] [])) t
                  refine XS.iload X11.here hx rfl (hb hby at_276) rfl ?_
                  refine XS.iload X11.here hx rfl (hb hby at_278) rfl ?_
                  exact kt
                by_cases hc280 : (own_c3 p0) = (own_c0 p1)
                · refine OGo.step (F' := T11.setTop (mkF m 283 #[.val (.int p0), .val (.int p1), .val (.int p2), .val (.int (own_c0 p0)), .val (.int (own_c1 p0)), .val (.int (own_c2 p0)), .val (.int (own_c3 p0)), .val (.ref b1), .val (.int (own_cn p2)), .val (.int (((p2.toUInt32 >>> ((3 : Int32) &&& 31).toUInt32).toInt32) &&& (3 : Int32))), .val (.ref b11_r), .val (.int (own_c0 p1)), .val (.int (1 : Int32)), .val (.int (-1 : Int32))] [])) (fun t kt => ?_) ?_
                  · show Steps p.tables e below (T11.setTop (mkF m 280 #[.val (.int p0), .val (.int p1), .val (.int p2), .val (.int (own_c0 p0)), .val (.int (own_c1 p0)), .val (.int (own_c2 p0)), .val (.int (own_c3 p0)), .val (.ref b1), .val (.int (own_cn p2)), .val (.int (((p2.toUInt32 >>> ((3 : Int32) &&& 31).toUInt32).toInt32) &&& (3 : Int32))), .val (.ref b11_r), .val (.int (own_c0 p1)), .val (.int (1 : Int32)), .val (.int (-1 : Int32))] [(.int (own_c0 p1)), (.int (own_c3 p0))])) t
                    refine XS.icmpNo X11.here hx rfl (hb hby at_280) rfl (teq hc280).2 ?_
                    exact kt
                  refine OGo.step (F' := T11.setTop (mkF m 292 #[.val (.int p0), .val (.int p1), .val (.int p2), .val (.int (own_c0 p0)), .val (.int (own_c1 p0)), .val (.int (own_c2 p0)), .val (.int (own_c3 p0)), .val (.ref b1), .val (.int (own_cn p2)), .val (.int (((p2.toUInt32 >>> ((3 : Int32) &&& 31).toUInt32).toInt32) &&& (3 : Int32))), .val (.ref b11_r), .val (.int (own_c0 p1)), .val (.int (1 : Int32)), .val (.int (3 : Int32))] [(.ref b11_r), (.int (own_cn p2)), (.ref b1)])) (fun t kt => ?_) ?_
                  · show Steps p.tables e below (T11.setTop (mkF m 283 #[.val (.int p0), .val (.int p1), .val (.int p2), .val (.int (own_c0 p0)), .val (.int (own_c1 p0)), .val (.int (own_c2 p0)), .val (.int (own_c3 p0)), .val (.ref b1), .val (.int (own_cn p2)), .val (.int (((p2.toUInt32 >>> ((3 : Int32) &&& 31).toUInt32).toInt32) &&& (3 : Int32))), .val (.ref b11_r), .val (.int (own_c0 p1)), .val (.int (1 : Int32)), .val (.int (-1 : Int32))] [])) t
                    refine XS.iconst X11.here hx rfl (hb hby at_283) ?_
                    refine XS.istore X11.here hx rfl (hb hby at_284) rfl (l' := #[.val (.int p0), .val (.int p1), .val (.int p2), .val (.int (own_c0 p0)), .val (.int (own_c1 p0)), .val (.int (own_c2 p0)), .val (.int (own_c3 p0)), .val (.ref b1), .val (.int (own_cn p2)), .val (.int (((p2.toUInt32 >>> ((3 : Int32) &&& 31).toUInt32).toInt32) &&& (3 : Int32))), .val (.ref b11_r), .val (.int (own_c0 p1)), .val (.int (1 : Int32)), .val (.int (3 : Int32))]) rfl ?_
                    refine XS.aload X11.here hx rfl (hb hby at_286) rfl rfl ?_
                    refine XS.iload X11.here hx rfl (hb hby at_288) rfl ?_
                    refine XS.aload X11.here hx rfl (hb hby at_290) rfl rfl ?_
                    exact kt
                  refine OGo.callS X11 hx hZ (y := (⟨"com/example/kette/kette/JsonObject", "walk", "([Ljava/lang/String;ILjava/lang/Object;)I"⟩ : MethodName)) hown (own_wd hw 28 rfl) (own_wd hw 29 rfl) (own_wd hw 30 rfl) (own_wd hw 31 rfl) (by decide) (rm6 l Z az hw [] b1 (own_cn p2) b11_r k1 b2_r b4_r b6_r b8_r b2_t b4_t b6_t b8_t (own_by (own_ch (own_c0 p0))) (own_by (own_ch (own_c1 p0))) (own_by (own_ch (own_c2 p0))) (own_by (own_ch (own_c3 p0))) b11_t (own_by (own_ch (own_c0 p1))) w_COMPACT_STRINGS T11.heap n0 (Nat.le_trans Z0 KC11.1) (V9.keep K11 nin0) (Z10_5.keep K11) (Z10_6.keep K11 nin0) (Z10_7.keep K11 nin0) (Z10_8.keep K11 nin0) (Z10_9.keep K11) (Z10_10.keep K11 nin0) (Z10_11.keep K11 nin0) (Z10_12.keep K11 nin0) (Z10_13.keep K11) (Z10_14.keep K11 nin0) (Z10_15.keep K11 nin0) (Z10_16.keep K11 nin0) (Z10_17.keep K11) (Z10_18.keep K11 nin0) (Z10_19.keep K11 nin0) (Z10_20.keep K11 nin0) P11_0 P11_1 P11_2 P11_3 hC (own_cnt _) (own_stakeep Z10_4 K11 all0)) (W := 0) (by decide) (by decide) (g := (mkF m 292 #[.val (.int p0), .val (.int p1), .val (.int p2), .val (.int (own_c0 p0)), .val (.int (own_c1 p0)), .val (.int (own_c2 p0)), .val (.int (own_c3 p0)), .val (.ref b1), .val (.int (own_cn p2)), .val (.int (((p2.toUInt32 >>> ((3 : Int32) &&& 31).toUInt32).toInt32) &&& (3 : Int32))), .val (.ref b11_r), .val (.int (own_c0 p1)), .val (.int (1 : Int32)), .val (.int (3 : Int32))] [(.ref b11_r), (.int (own_cn p2)), (.ref b1)])) rfl (by rw [hml]; rfl) (argsL := [(.ref b1), (.int (own_cn p2)), (.ref b11_r)]) (rest := []) (lenOf pd_0_1 rfl) rfl (by show 2 * 0 + _ ≤ _; exact Nat.le_of_eq rfl) (hb hby at_292) rfl rfl (by decide) (by decide) ?_
                  rintro _ T22 L22 X22 ⟨rfl, Nq22, e22⟩
                  have N22 := Fr.app N11 Nq22
                  show OGo _ _ _ _ _ _ _ (T22.setTop (mkF m 295 #[.val (.int p0), .val (.int p1), .val (.int p2), .val (.int (own_c0 p0)), .val (.int (own_c1 p0)), .val (.int (own_c2 p0)), .val (.int (own_c3 p0)), .val (.ref b1), .val (.int (own_cn p2)), .val (.int (((p2.toUInt32 >>> ((3 : Int32) &&& 31).toUInt32).toInt32) &&& (3 : Int32))), .val (.ref b11_r), .val (.int (own_c0 p1)), .val (.int (1 : Int32)), .val (.int (3 : Int32))] [(.int (f6 (own_cn p2) b11_r b2_r b4_r b6_r b8_r (own_by (own_ch (own_c0 p0))) (own_by (own_ch (own_c1 p0))) (own_by (own_ch (own_c2 p0))) (own_by (own_ch (own_c3 p0))) (own_by (own_ch (own_c0 p1)))))]))
                  refine OGo.step (F' := T22.setTop (mkF m 305 #[.val (.int p0), .val (.int p1), .val (.int p2), .val (.int (own_c0 p0)), .val (.int (own_c1 p0)), .val (.int (own_c2 p0)), .val (.int (own_c3 p0)), .val (.ref b1), .val (.int (own_cn p2)), .val (.int (((p2.toUInt32 >>> ((3 : Int32) &&& 31).toUInt32).toInt32) &&& (3 : Int32))), .val (.ref b11_r), .val (.int (own_c0 p1)), .val (.int (1 : Int32)), .val (.int (3 : Int32))] [(.int (1 : Int32))])) (fun t kt => ?_) ?_
                  · show Steps p.tables e below (T22.setTop (mkF m 295 #[.val (.int p0), .val (.int p1), .val (.int p2), .val (.int (own_c0 p0)), .val (.int (own_c1 p0)), .val (.int (own_c2 p0)), .val (.int (own_c3 p0)), .val (.ref b1), .val (.int (own_cn p2)), .val (.int (((p2.toUInt32 >>> ((3 : Int32) &&& 31).toUInt32).toInt32) &&& (3 : Int32))), .val (.ref b11_r), .val (.int (own_c0 p1)), .val (.int (1 : Int32)), .val (.int (3 : Int32))] [(.int (f6 (own_cn p2) b11_r b2_r b4_r b6_r b8_r (own_by (own_ch (own_c0 p0))) (own_by (own_ch (own_c1 p0))) (own_by (own_ch (own_c2 p0))) (own_by (own_ch (own_c3 p0))) (own_by (own_ch (own_c0 p1)))))])) t
                    refine XS.iload X22.here hx rfl (hb hby at_295) rfl ?_
                    refine XS.icmpNo X22.here hx rfl (hb hby at_297) rfl (teq (by rw [own_fin _ (own_c0 p0) (own_c1 p0) (own_c2 p0) (own_c3 p0) (own_c0 p1) _ _ _ _ _ _ _ _ _ _ (own_e _ _ _ _ (own_r0 _) (own_r0 _) (fun q => absurd q (Nat.ne_of_lt (Nat.lt_of_lt_of_le Z10_5.lt szo_b11_r)))) (own_e _ _ _ _ (own_r1 _) (own_r0 _) (fun q => absurd q (Nat.ne_of_lt (Nat.lt_of_lt_of_le Z10_9.lt szo_b11_r)))) (own_e _ _ _ _ (own_r2 _) (own_r0 _) (fun q => absurd q (Nat.ne_of_lt (Nat.lt_of_lt_of_le Z10_13.lt szo_b11_r)))) (own_e _ _ _ _ (own_r3 _) (own_r0 _) (fun q => absurd q (Nat.ne_of_lt (Nat.lt_of_lt_of_le Z10_17.lt szo_b11_r)))) (own_cnt _), own_exp, if_neg (fun q => hc223 q.2), if_neg (fun q => hc235 q.1), if_neg (fun q => hc261 q.2), if_pos ⟨hc273, hc280⟩])).2 ?_
                    refine XS.iconst X22.here hx rfl (hb hby at_300) ?_
                    refine XS.goto X22.here hx rfl (pc0 := 301) (pc' := 305) rfl (hb hby at_301) (by decide) (by decide) ?_
                    exact kt
                  refine OGo.retZ X22 hx hlk (t := .boolean) (z' := (1 : Int32)) hret (by simp) (hb hby at_305) rfl ?_ (by decide) (by decide)
                  show Q0 Z p0 p1 p2 w_high w_cache w_COMPACT_STRINGS h0 n0 _ T22.heap _
                  rw [e22]
                  exact ⟨rfl, N22, KC11⟩
                · refine OGo.step (F' := T11.setTop (mkF m 286 #[.val (.int p0), .val (.int p1), .val (.int p2), .val (.int (own_c0 p0)), .val (.int (own_c1 p0)), .val (.int (own_c2 p0)), .val (.int (own_c3 p0)), .val (.ref b1), .val (.int (own_cn p2)), .val (.int (((p2.toUInt32 >>> ((3 : Int32) &&& 31).toUInt32).toInt32) &&& (3 : Int32))), .val (.ref b11_r), .val (.int (own_c0 p1)), .val (.int (1 : Int32)), .val (.int (-1 : Int32))] [])) (fun t kt => ?_) ?_
                  · show Steps p.tables e below (T11.setTop (mkF m 280 #[.val (.int p0), .val (.int p1), .val (.int p2), .val (.int (own_c0 p0)), .val (.int (own_c1 p0)), .val (.int (own_c2 p0)), .val (.int (own_c3 p0)), .val (.ref b1), .val (.int (own_cn p2)), .val (.int (((p2.toUInt32 >>> ((3 : Int32) &&& 31).toUInt32).toInt32) &&& (3 : Int32))), .val (.ref b11_r), .val (.int (own_c0 p1)), .val (.int (1 : Int32)), .val (.int (-1 : Int32))] [(.int (own_c0 p1)), (.int (own_c3 p0))])) t
                    refine XS.icmpYes X11.here hx rfl (pc0 := 280) (pc' := 286) rfl (hb hby at_280) rfl (feq hc280).2 (by decide) (by decide) ?_
                    exact kt
                  refine OGo.step (F' := T11.setTop (mkF m 292 #[.val (.int p0), .val (.int p1), .val (.int p2), .val (.int (own_c0 p0)), .val (.int (own_c1 p0)), .val (.int (own_c2 p0)), .val (.int (own_c3 p0)), .val (.ref b1), .val (.int (own_cn p2)), .val (.int (((p2.toUInt32 >>> ((3 : Int32) &&& 31).toUInt32).toInt32) &&& (3 : Int32))), .val (.ref b11_r), .val (.int (own_c0 p1)), .val (.int (1 : Int32)), .val (.int (-1 : Int32))] [(.ref b11_r), (.int (own_cn p2)), (.ref b1)])) (fun t kt => ?_) ?_
                  · show Steps p.tables e below (T11.setTop (mkF m 286 #[.val (.int p0), .val (.int p1), .val (.int p2), .val (.int (own_c0 p0)), .val (.int (own_c1 p0)), .val (.int (own_c2 p0)), .val (.int (own_c3 p0)), .val (.ref b1), .val (.int (own_cn p2)), .val (.int (((p2.toUInt32 >>> ((3 : Int32) &&& 31).toUInt32).toInt32) &&& (3 : Int32))), .val (.ref b11_r), .val (.int (own_c0 p1)), .val (.int (1 : Int32)), .val (.int (-1 : Int32))] [])) t
                    refine XS.aload X11.here hx rfl (hb hby at_286) rfl rfl ?_
                    refine XS.iload X11.here hx rfl (hb hby at_288) rfl ?_
                    refine XS.aload X11.here hx rfl (hb hby at_290) rfl rfl ?_
                    exact kt
                  refine OGo.callS X11 hx hZ (y := (⟨"com/example/kette/kette/JsonObject", "walk", "([Ljava/lang/String;ILjava/lang/Object;)I"⟩ : MethodName)) hown (own_wd hw 28 rfl) (own_wd hw 29 rfl) (own_wd hw 30 rfl) (own_wd hw 31 rfl) (by decide) (rm6 l Z az hw [] b1 (own_cn p2) b11_r k1 b2_r b4_r b6_r b8_r b2_t b4_t b6_t b8_t (own_by (own_ch (own_c0 p0))) (own_by (own_ch (own_c1 p0))) (own_by (own_ch (own_c2 p0))) (own_by (own_ch (own_c3 p0))) b11_t (own_by (own_ch (own_c0 p1))) w_COMPACT_STRINGS T11.heap n0 (Nat.le_trans Z0 KC11.1) (V9.keep K11 nin0) (Z10_5.keep K11) (Z10_6.keep K11 nin0) (Z10_7.keep K11 nin0) (Z10_8.keep K11 nin0) (Z10_9.keep K11) (Z10_10.keep K11 nin0) (Z10_11.keep K11 nin0) (Z10_12.keep K11 nin0) (Z10_13.keep K11) (Z10_14.keep K11 nin0) (Z10_15.keep K11 nin0) (Z10_16.keep K11 nin0) (Z10_17.keep K11) (Z10_18.keep K11 nin0) (Z10_19.keep K11 nin0) (Z10_20.keep K11 nin0) P11_0 P11_1 P11_2 P11_3 hC (own_cnt _) (own_stakeep Z10_4 K11 all0)) (W := 0) (by decide) (by decide) (g := (mkF m 292 #[.val (.int p0), .val (.int p1), .val (.int p2), .val (.int (own_c0 p0)), .val (.int (own_c1 p0)), .val (.int (own_c2 p0)), .val (.int (own_c3 p0)), .val (.ref b1), .val (.int (own_cn p2)), .val (.int (((p2.toUInt32 >>> ((3 : Int32) &&& 31).toUInt32).toInt32) &&& (3 : Int32))), .val (.ref b11_r), .val (.int (own_c0 p1)), .val (.int (1 : Int32)), .val (.int (-1 : Int32))] [(.ref b11_r), (.int (own_cn p2)), (.ref b1)])) rfl (by rw [hml]; rfl) (argsL := [(.ref b1), (.int (own_cn p2)), (.ref b11_r)]) (rest := []) (lenOf pd_0_1 rfl) rfl (by show 2 * 0 + _ ≤ _; exact Nat.le_of_eq rfl) (hb hby at_292) rfl rfl (by decide) (by decide) ?_
                  rintro _ T23 L23 X23 ⟨rfl, Nq23, e23⟩
                  have N23 := Fr.app N11 Nq23
                  show OGo _ _ _ _ _ _ _ (T23.setTop (mkF m 295 #[.val (.int p0), .val (.int p1), .val (.int p2), .val (.int (own_c0 p0)), .val (.int (own_c1 p0)), .val (.int (own_c2 p0)), .val (.int (own_c3 p0)), .val (.ref b1), .val (.int (own_cn p2)), .val (.int (((p2.toUInt32 >>> ((3 : Int32) &&& 31).toUInt32).toInt32) &&& (3 : Int32))), .val (.ref b11_r), .val (.int (own_c0 p1)), .val (.int (1 : Int32)), .val (.int (-1 : Int32))] [(.int (f6 (own_cn p2) b11_r b2_r b4_r b6_r b8_r (own_by (own_ch (own_c0 p0))) (own_by (own_ch (own_c1 p0))) (own_by (own_ch (own_c2 p0))) (own_by (own_ch (own_c3 p0))) (own_by (own_ch (own_c0 p1)))))]))
                  refine OGo.step (F' := T23.setTop (mkF m 305 #[.val (.int p0), .val (.int p1), .val (.int p2), .val (.int (own_c0 p0)), .val (.int (own_c1 p0)), .val (.int (own_c2 p0)), .val (.int (own_c3 p0)), .val (.ref b1), .val (.int (own_cn p2)), .val (.int (((p2.toUInt32 >>> ((3 : Int32) &&& 31).toUInt32).toInt32) &&& (3 : Int32))), .val (.ref b11_r), .val (.int (own_c0 p1)), .val (.int (1 : Int32)), .val (.int (-1 : Int32))] [(.int (1 : Int32))])) (fun t kt => ?_) ?_
                  · show Steps p.tables e below (T23.setTop (mkF m 295 #[.val (.int p0), .val (.int p1), .val (.int p2), .val (.int (own_c0 p0)), .val (.int (own_c1 p0)), .val (.int (own_c2 p0)), .val (.int (own_c3 p0)), .val (.ref b1), .val (.int (own_cn p2)), .val (.int (((p2.toUInt32 >>> ((3 : Int32) &&& 31).toUInt32).toInt32) &&& (3 : Int32))), .val (.ref b11_r), .val (.int (own_c0 p1)), .val (.int (1 : Int32)), .val (.int (-1 : Int32))] [(.int (f6 (own_cn p2) b11_r b2_r b4_r b6_r b8_r (own_by (own_ch (own_c0 p0))) (own_by (own_ch (own_c1 p0))) (own_by (own_ch (own_c2 p0))) (own_by (own_ch (own_c3 p0))) (own_by (own_ch (own_c0 p1)))))])) t
                    refine XS.iload X23.here hx rfl (hb hby at_295) rfl ?_
                    refine XS.icmpNo X23.here hx rfl (hb hby at_297) rfl (teq (by rw [own_fin _ (own_c0 p0) (own_c1 p0) (own_c2 p0) (own_c3 p0) (own_c0 p1) _ _ _ _ _ _ _ _ _ _ (own_e _ _ _ _ (own_r0 _) (own_r0 _) (fun q => absurd q (Nat.ne_of_lt (Nat.lt_of_lt_of_le Z10_5.lt szo_b11_r)))) (own_e _ _ _ _ (own_r1 _) (own_r0 _) (fun q => absurd q (Nat.ne_of_lt (Nat.lt_of_lt_of_le Z10_9.lt szo_b11_r)))) (own_e _ _ _ _ (own_r2 _) (own_r0 _) (fun q => absurd q (Nat.ne_of_lt (Nat.lt_of_lt_of_le Z10_13.lt szo_b11_r)))) (own_e _ _ _ _ (own_r3 _) (own_r0 _) (fun q => absurd q (Nat.ne_of_lt (Nat.lt_of_lt_of_le Z10_17.lt szo_b11_r)))) (own_cnt _), own_exp, if_neg (fun q => hc223 q.2), if_neg (fun q => hc235 q.1), if_neg (fun q => hc261 q.2), if_neg (fun q => hc280 q.2)])).2 ?_
                    refine XS.iconst X23.here hx rfl (hb hby at_300) ?_
                    refine XS.goto X23.here hx rfl (pc0 := 301) (pc' := 305) rfl (hb hby at_301) (by decide) (by decide) ?_
                    exact kt
                  refine OGo.retZ X23 hx hlk (t := .boolean) (z' := (1 : Int32)) hret (by simp) (hb hby at_305) rfl ?_ (by decide) (by decide)
                  show Q0 Z p0 p1 p2 w_high w_cache w_COMPACT_STRINGS h0 n0 _ T23.heap _
                  rw [e23]
                  exact ⟨rfl, N23, KC11⟩
              · refine OGo.step (F' := T11.setTop (mkF m 286 #[.val (.int p0), .val (.int p1), .val (.int p2), .val (.int (own_c0 p0)), .val (.int (own_c1 p0)), .val (.int (own_c2 p0)), .val (.int (own_c3 p0)), .val (.ref b1), .val (.int (own_cn p2)), .val (.int (((p2.toUInt32 >>> ((3 : Int32) &&& 31).toUInt32).toInt32) &&& (3 : Int32))), .val (.ref b11_r), .val (.int (own_c0 p1)), .val (.int (1 : Int32)), .val (.int (-1 : Int32))] [])) (fun t kt => ?_) ?_
                · show Steps p.tables e below (T11.setTop (mkF m 273 #[.val (.int p0), .val (.int p1), .val (.int p2), .val (.int (own_c0 p0)), .val (.int (own_c1 p0)), .val (.int (own_c2 p0)), .val (.int (own_c3 p0)), .val (.ref b1), .val (.int (own_cn p2)), .val (.int (((p2.toUInt32 >>> ((3 : Int32) &&& 31).toUInt32).toInt32) &&& (3 : Int32))), .val (.ref b11_r), .val (.int (own_c0 p1)), .val (.int (1 : Int32)), .val (.int (-1 : Int32))] [(.int (3 : Int32)), (.int (own_cn p2))])) t
                  refine XS.icmpYes X11.here hx rfl (pc0 := 273) (pc' := 286) rfl (hb hby at_273) rfl (flt hc273).2.2.2 (by decide) (by decide) ?_
                  exact kt
                refine OGo.step (F' := T11.setTop (mkF m 292 #[.val (.int p0), .val (.int p1), .val (.int p2), .val (.int (own_c0 p0)), .val (.int (own_c1 p0)), .val (.int (own_c2 p0)), .val (.int (own_c3 p0)), .val (.ref b1), .val (.int (own_cn p2)), .val (.int (((p2.toUInt32 >>> ((3 : Int32) &&& 31).toUInt32).toInt32) &&& (3 : Int32))), .val (.ref b11_r), .val (.int (own_c0 p1)), .val (.int (1 : Int32)), .val (.int (-1 : Int32))] [(.ref b11_r), (.int (own_cn p2)), (.ref b1)])) (fun t kt => ?_) ?_
                · show Steps p.tables e below (T11.setTop (mkF m 286 #[.val (.int p0), .val (.int p1), .val (.int p2), .val (.int (own_c0 p0)), .val (.int (own_c1 p0)), .val (.int (own_c2 p0)), .val (.int (own_c3 p0)), .val (.ref b1), .val (.int (own_cn p2)), .val (.int (((p2.toUInt32 >>> ((3 : Int32) &&& 31).toUInt32).toInt32) &&& (3 : Int32))), .val (.ref b11_r), .val (.int (own_c0 p1)), .val (.int (1 : Int32)), .val (.int (-1 : Int32))] [])) t
                  refine XS.aload X11.here hx rfl (hb hby at_286) rfl rfl ?_
                  refine XS.iload X11.here hx rfl (hb hby at_288) rfl ?_
                  refine XS.aload X11.here hx rfl (hb hby at_290) rfl rfl ?_
                  exact kt
                refine OGo.callS X11 hx hZ (y := (⟨"com/example/kette/kette/JsonObject", "walk", "([Ljava/lang/String;ILjava/lang/Object;)I"⟩ : MethodName)) hown (own_wd hw 28 rfl) (own_wd hw 29 rfl) (own_wd hw 30 rfl) (own_wd hw 31 rfl) (by decide) (rm6 l Z az hw [] b1 (own_cn p2) b11_r k1 b2_r b4_r b6_r b8_r b2_t b4_t b6_t b8_t (own_by (own_ch (own_c0 p0))) (own_by (own_ch (own_c1 p0))) (own_by (own_ch (own_c2 p0))) (own_by (own_ch (own_c3 p0))) b11_t (own_by (own_ch (own_c0 p1))) w_COMPACT_STRINGS T11.heap n0 (Nat.le_trans Z0 KC11.1) (V9.keep K11 nin0) (Z10_5.keep K11) (Z10_6.keep K11 nin0) (Z10_7.keep K11 nin0) (Z10_8.keep K11 nin0) (Z10_9.keep K11) (Z10_10.keep K11 nin0) (Z10_11.keep K11 nin0) (Z10_12.keep K11 nin0) (Z10_13.keep K11) (Z10_14.keep K11 nin0) (Z10_15.keep K11 nin0) (Z10_16.keep K11 nin0) (Z10_17.keep K11) (Z10_18.keep K11 nin0) (Z10_19.keep K11 nin0) (Z10_20.keep K11 nin0) P11_0 P11_1 P11_2 P11_3 hC (own_cnt _) (own_stakeep Z10_4 K11 all0)) (W := 0) (by decide) (by decide) (g := (mkF m 292 #[.val (.int p0), .val (.int p1), .val (.int p2), .val (.int (own_c0 p0)), .val (.int (own_c1 p0)), .val (.int (own_c2 p0)), .val (.int (own_c3 p0)), .val (.ref b1), .val (.int (own_cn p2)), .val (.int (((p2.toUInt32 >>> ((3 : Int32) &&& 31).toUInt32).toInt32) &&& (3 : Int32))), .val (.ref b11_r), .val (.int (own_c0 p1)), .val (.int (1 : Int32)), .val (.int (-1 : Int32))] [(.ref b11_r), (.int (own_cn p2)), (.ref b1)])) rfl (by rw [hml]; rfl) (argsL := [(.ref b1), (.int (own_cn p2)), (.ref b11_r)]) (rest := []) (lenOf pd_0_1 rfl) rfl (by show 2 * 0 + _ ≤ _; exact Nat.le_of_eq rfl) (hb hby at_292) rfl rfl (by decide) (by decide) ?_
                rintro _ T24 L24 X24 ⟨rfl, Nq24, e24⟩
                have N24 := Fr.app N11 Nq24
                show OGo _ _ _ _ _ _ _ (T24.setTop (mkF m 295 #[.val (.int p0), .val (.int p1), .val (.int p2), .val (.int (own_c0 p0)), .val (.int (own_c1 p0)), .val (.int (own_c2 p0)), .val (.int (own_c3 p0)), .val (.ref b1), .val (.int (own_cn p2)), .val (.int (((p2.toUInt32 >>> ((3 : Int32) &&& 31).toUInt32).toInt32) &&& (3 : Int32))), .val (.ref b11_r), .val (.int (own_c0 p1)), .val (.int (1 : Int32)), .val (.int (-1 : Int32))] [(.int (f6 (own_cn p2) b11_r b2_r b4_r b6_r b8_r (own_by (own_ch (own_c0 p0))) (own_by (own_ch (own_c1 p0))) (own_by (own_ch (own_c2 p0))) (own_by (own_ch (own_c3 p0))) (own_by (own_ch (own_c0 p1)))))]))
                refine OGo.step (F' := T24.setTop (mkF m 305 #[.val (.int p0), .val (.int p1), .val (.int p2), .val (.int (own_c0 p0)), .val (.int (own_c1 p0)), .val (.int (own_c2 p0)), .val (.int (own_c3 p0)), .val (.ref b1), .val (.int (own_cn p2)), .val (.int (((p2.toUInt32 >>> ((3 : Int32) &&& 31).toUInt32).toInt32) &&& (3 : Int32))), .val (.ref b11_r), .val (.int (own_c0 p1)), .val (.int (1 : Int32)), .val (.int (-1 : Int32))] [(.int (1 : Int32))])) (fun t kt => ?_) ?_
                · show Steps p.tables e below (T24.setTop (mkF m 295 #[.val (.int p0), .val (.int p1), .val (.int p2), .val (.int (own_c0 p0)), .val (.int (own_c1 p0)), .val (.int (own_c2 p0)), .val (.int (own_c3 p0)), .val (.ref b1), .val (.int (own_cn p2)), .val (.int (((p2.toUInt32 >>> ((3 : Int32) &&& 31).toUInt32).toInt32) &&& (3 : Int32))), .val (.ref b11_r), .val (.int (own_c0 p1)), .val (.int (1 : Int32)), .val (.int (-1 : Int32))] [(.int (f6 (own_cn p2) b11_r b2_r b4_r b6_r b8_r (own_by (own_ch (own_c0 p0))) (own_by (own_ch (own_c1 p0))) (own_by (own_ch (own_c2 p0))) (own_by (own_ch (own_c3 p0))) (own_by (own_ch (own_c0 p1)))))])) t
                  refine XS.iload X24.here hx rfl (hb hby at_295) rfl ?_
                  refine XS.icmpNo X24.here hx rfl (hb hby at_297) rfl (teq (by rw [own_fin _ (own_c0 p0) (own_c1 p0) (own_c2 p0) (own_c3 p0) (own_c0 p1) _ _ _ _ _ _ _ _ _ _ (own_e _ _ _ _ (own_r0 _) (own_r0 _) (fun q => absurd q (Nat.ne_of_lt (Nat.lt_of_lt_of_le Z10_5.lt szo_b11_r)))) (own_e _ _ _ _ (own_r1 _) (own_r0 _) (fun q => absurd q (Nat.ne_of_lt (Nat.lt_of_lt_of_le Z10_9.lt szo_b11_r)))) (own_e _ _ _ _ (own_r2 _) (own_r0 _) (fun q => absurd q (Nat.ne_of_lt (Nat.lt_of_lt_of_le Z10_13.lt szo_b11_r)))) (own_e _ _ _ _ (own_r3 _) (own_r0 _) (fun q => absurd q (Nat.ne_of_lt (Nat.lt_of_lt_of_le Z10_17.lt szo_b11_r)))) (own_cnt _), own_exp, if_neg (fun q => hc223 q.2), if_neg (fun q => hc235 q.1), if_neg (fun q => hc261 q.2), if_neg (fun q => hc273 q.1)])).2 ?_
                  refine XS.iconst X24.here hx rfl (hb hby at_300) ?_
                  refine XS.goto X24.here hx rfl (pc0 := 301) (pc' := 305) rfl (hb hby at_301) (by decide) (by decide) ?_
                  exact kt
                refine OGo.retZ X24 hx hlk (t := .boolean) (z' := (1 : Int32)) hret (by simp) (hb hby at_305) rfl ?_ (by decide) (by decide)
                show Q0 Z p0 p1 p2 w_high w_cache w_COMPACT_STRINGS h0 n0 _ T24.heap _
                rw [e24]
                exact ⟨rfl, N24, KC11⟩
          · refine OGo.step (F' := T11.setTop (mkF m 270 #[.val (.int p0), .val (.int p1), .val (.int p2), .val (.int (own_c0 p0)), .val (.int (own_c1 p0)), .val (.int (own_c2 p0)), .val (.int (own_c3 p0)), .val (.ref b1), .val (.int (own_cn p2)), .val (.int (((p2.toUInt32 >>> ((3 : Int32) &&& 31).toUInt32).toInt32) &&& (3 : Int32))), .val (.ref b11_r), .val (.int (own_c0 p1)), .val (.int (1 : Int32)), .val (.int (-1 : Int32))] [])) (fun t kt => ?_) ?_
            · show Steps p.tables e below (T11.setTop (mkF m 254 #[.val (.int p0), .val (.int p1), .val (.int p2), .val (.int (own_c0 p0)), .val (.int (own_c1 p0)), .val (.int (own_c2 p0)), .val (.int (own_c3 p0)), .val (.ref b1), .val (.int (own_cn p2)), .val (.int (((p2.toUInt32 >>> ((3 : Int32) &&& 31).toUInt32).toInt32) &&& (3 : Int32))), .val (.ref b11_r), .val (.int (own_c0 p1)), .val (.int (1 : Int32)), .val (.int (-1 : Int32))] [(.int (2 : Int32)), (.int (own_cn p2))])) t
              refine XS.icmpYes X11.here hx rfl (pc0 := 254) (pc' := 270) rfl (hb hby at_254) rfl (flt hc254).2.2.2 (by decide) (by decide) ?_
              exact kt
            refine OGo.step (F' := T11.setTop (mkF m 273 #[.val (.int p0), .val (.int p1), .val (.int p2), .val (.int (own_c0 p0)), .val (.int (own_c1 p0)), .val (.int (own_c2 p0)), .val (.int (own_c3 p0)), .val (.ref b1), .val (.int (own_cn p2)), .val (.int (((p2.toUInt32 >>> ((3 : Int32) &&& 31).toUInt32).toInt32) &&& (3 : Int32))), .val (.ref b11_r), .val (.int (own_c0 p1)), .val (.int (1 : Int32)), .val (.int (-1 : Int32))] [(.int (3 : Int32)), (.int (own_cn p2))])) (fun t kt => ?_) ?_
            · show Steps p.tables e below (T11.setTop (mkF m 270 #[.val (.int p0), .val (.int p1), .val (.int p2), .val (.int (own_c0 p0)), .val (.int (own_c1 p0)), .val (.int (own_c2 p0)), .val (.int (own_c3 p0)), .val (.ref b1), .val (.int (own_cn p2)), .val (.int (((p2.toUInt32 >>> ((3 : Int32) &&& 31).toUInt32).toInt32) &&& (3 : Int32))), .val (.ref b11_r), .val (.int (own_c0 p1)), .val (.int (1 : Int32)), .val (.int (-1 : Int32))] [])) t
              refine XS.iload X11.here hx rfl (hb hby at_270) rfl ?_
              refine XS.iconst X11.here hx rfl (hb hby at_272) ?_
              exact kt
            by_cases hc273 : (3 : Int32) < (own_cn p2)
            · refine OGo.step (F' := T11.setTop (mkF m 276 #[.val (.int p0), .val (.int p1), .val (.int p2), .val (.int (own_c0 p0)), .val (.int (own_c1 p0)), .val (.int (own_c2 p0)), .val (.int (own_c3 p0)), .val (.ref b1), .val (.int (own_cn p2)), .val (.int (((p2.toUInt32 >>> ((3 : Int32) &&& 31).toUInt32).toInt32) &&& (3 : Int32))), .val (.ref b11_r), .val (.int (own_c0 p1)), .val (.int (1 : Int32)), .val (.int (-1 : Int32))] [])) (fun t kt => ?_) ?_
              · show Steps p.tables e below (T11.setTop (mkF m 273 #[.val (.int p0), .val (.int p1), .val (.int p2), .val (.int (own_c0 p0)), .val (.int (own_c1 p0)), .val (.int (own_c2 p0)), .val (.int (own_c3 p0)), .val (.ref b1), .val (.int (own_cn p2)), .val (.int (((p2.toUInt32 >>> ((3 : Int32) &&& 31).toUInt32).toInt32) &&& (3 : Int32))), .val (.ref b11_r), .val (.int (own_c0 p1)), .val (.int (1 : Int32)), .val (.int (-1 : Int32))] [(.int (3 : Int32)), (.int (own_cn p2))])) t
                refine XS.icmpNo X11.here hx rfl (hb hby at_273) rfl (tlt hc273).2.2.2 ?_
                exact kt
              refine OGo.step (F' := T11.setTop (mkF m 280 #[.val (.int p0), .val (.int p1), .val (.int p2), .val (.int (own_c0 p0)), .val (.int (own_c1 p0)), .val (.int (own_c2 p0)), .val (.int (own_c3 p0)), .val (.ref b1), .val (.int (own_cn p2)), .val (.int (((p2.toUInt32 >>> ((3 : Int32) &&& 31).toUInt32).toInt32) &&& (3 : Int32))), .val (.ref b11_r), .val (.int (own_c0 p1)), .val (.int (1 : Int32)), .val (.int (-1 : Int32))] [(.int (own_c0 p1)), (.int (own_c3 p0))])) (fun t kt => ?_) ?_
              · show Steps p.tables e below (T11.setTop (mkF m 276 #[.val (.int p0), .val (.int p1), .val (.int p2), .val (.int (own_c0 p0)), .val (.int (own_c1 p0)), .val (.int (own_c2 p0)), .val (.int (own_c3 p0)), .val (.ref b1), .val (.int (own_cn p2)), .val (.int (((p2.toUInt32 >>> ((3 : Int32) &&& 31).toUInt32).toInt32) &&& (3 : Int32))), .val (.ref b11_r), .val (.int (own_c0 p1)), .val (.int (1 : Int32)), .val (.int (-1 : Int32))] [])) t
                refine XS.iload X11.here hx rfl (hb hby at_276) rfl ?_
                refine XS.iload X11.here hx rfl (hb hby at_278) rfl ?_
                exact kt
              by_cases hc280 : (own_c3 p0) = (own_c0 p1)
              · refine OGo.step (F' := T11.setTop (mkF m 283 #[.val (.int p0), .val (.int p1), .val (.int p2), .val (.int (own_c0 p0)), .val (.int (own_c1 p0)), .val (.int (own_c2 p0)), .val (.int (own_c3 p0)), .val (.ref b1), .val (.int (own_cn p2)), .val (.int (((p2.toUInt32 >>> ((3 : Int32) &&& 31).toUInt32).toInt32) &&& (3 : Int32))), .val (.ref b11_r), .val (.int (own_c0 p1)), .val (.int (1 : Int32)), .val (.int (-1 : Int32))] [])) (fun t kt => ?_) ?_
                · show Steps p.tables e below (T11.setTop (mkF m 280 #[.val (.int p0), .val (.int p1), .val (.int p2), .val (.int (own_c0 p0)), .val (.int (own_c1 p0)), .val (.int (own_c2 p0)), .val (.int (own_c3 p0)), .val (.ref b1), .val (.int (own_cn p2)), .val (.int (((p2.toUInt32 >>> ((3 : Int32) &&& 31).toUInt32).toInt32) &&& (3 : Int32))), .val (.ref b11_r), .val (.int (own_c0 p1)), .val (.int (1 : Int32)), .val (.int (-1 : Int32))] [(.int (own_c0 p1)), (.int (own_c3 p0))])) t
                  refine XS.icmpNo X11.here hx rfl (hb hby at_280) rfl (teq hc280).2 ?_
                  exact kt
                refine OGo.step (F' := T11.setTop (mkF m 292 #[.val (.int p0), .val (.int p1), .val (.int p2), .val (.int (own_c0 p0)), .val (.int (own_c1 p0)), .val (.int (own_c2 p0)), .val (.int (own_c3 p0)), .val (.ref b1), .val (.int (own_cn p2)), .val (.int (((p2.toUInt32 >>> ((3 : Int32) &&& 31).toUInt32).toInt32) &&& (3 : Int32))), .val (.ref b11_r), .val (.int (own_c0 p1)), .val (.int (1 : Int32)), .val (.int (3 : Int32))] [(.ref b11_r), (.int (own_cn p2)), (.ref b1)])) (fun t kt => ?_) ?_
                · show Steps p.tables e below (T11.setTop (mkF m 283 #[.val (.int p0), .val (.int p1), .val (.int p2), .val (.int (own_c0 p0)), .val (.int (own_c1 p0)), .val (.int (own_c2 p0)), .val (.int (own_c3 p0)), .val (.ref b1), .val (.int (own_cn p2)), .val (.int (((p2.toUInt32 >>> ((3 : Int32) &&& 31).toUInt32).toInt32) &&& (3 : Int32))), .val (.ref b11_r), .val (.int (own_c0 p1)), .val (.int (1 : Int32)), .val (.int (-1 : Int32))] [])) t
                  refine XS.iconst X11.here hx rfl (hb hby at_283) ?_
                  refine XS.istore X11.here hx rfl (hb hby at_284) rfl (l' := #[.val (.int p0), .val (.int p1), .val (.int p2), .val (.int (own_c0 p0)), .val (.int (own_c1 p0)), .val (.int (own_c2 p0)), .val (.int (own_c3 p0)), .val (.ref b1), .val (.int (own_cn p2)), .val (.int (((p2.toUInt32 >>> ((3 : Int32) &&& 31).toUInt32).toInt32) &&& (3 : Int32))), .val (.ref b11_r), .val (.int (own_c0 p1)), .val (.int (1 : Int32)), .val (.int (3 : Int32))]) rfl ?_
                  refine XS.aload X11.here hx rfl (hb hby at_286) rfl rfl ?_
                  refine XS.iload X11.here hx rfl (hb hby at_288) rfl ?_
                  refine XS.aload X11.here hx rfl (hb hby at_290) rfl rfl ?_
                  exact kt
                refine OGo.callS X11 hx hZ (y := (⟨"com/example/kette/kette/JsonObject", "walk", "([Ljava/lang/String;ILjava/lang/Object;)I"⟩ : MethodName)) hown (own_wd hw 28 rfl) (own_wd hw 29 rfl) (own_wd hw 30 rfl) (own_wd hw 31 rfl) (by decide) (rm6 l Z az hw [] b1 (own_cn p2) b11_r k1 b2_r b4_r b6_r b8_r b2_t b4_t b6_t b8_t (own_by (own_ch (own_c0 p0))) (own_by (own_ch (own_c1 p0))) (own_by (own_ch (own_c2 p0))) (own_by (own_ch (own_c3 p0))) b11_t (own_by (own_ch (own_c0 p1))) w_COMPACT_STRINGS T11.heap n0 (Nat.le_trans Z0 KC11.1) (V9.keep K11 nin0) (Z10_5.keep K11) (Z10_6.keep K11 nin0) (Z10_7.keep K11 nin0) (Z10_8.keep K11 nin0) (Z10_9.keep K11) (Z10_10.keep K11 nin0) (Z10_11.keep K11 nin0) (Z10_12.keep K11 nin0) (Z10_13.keep K11) (Z10_14.keep K11 nin0) (Z10_15.keep K11 nin0) (Z10_16.keep K11 nin0) (Z10_17.keep K11) (Z10_18.keep K11 nin0) (Z10_19.keep K11 nin0) (Z10_20.keep K11 nin0) P11_0 P11_1 P11_2 P11_3 hC (own_cnt _) (own_stakeep Z10_4 K11 all0)) (W := 0) (by decide) (by decide) (g := (mkF m 292 #[.val (.int p0), .val (.int p1), .val (.int p2), .val (.int (own_c0 p0)), .val (.int (own_c1 p0)), .val (.int (own_c2 p0)), .val (.int (own_c3 p0)), .val (.ref b1), .val (.int (own_cn p2)), .val (.int (((p2.toUInt32 >>> ((3 : Int32) &&& 31).toUInt32).toInt32) &&& (3 : Int32))), .val (.ref b11_r), .val (.int (own_c0 p1)), .val (.int (1 : Int32)), .val (.int (3 : Int32))] [(.ref b11_r), (.int (own_cn p2)), (.ref b1)])) rfl (by rw [hml]; rfl) (argsL := [(.ref b1), (.int (own_cn p2)), (.ref b11_r)]) (rest := []) (lenOf pd_0_1 rfl) rfl (by show 2 * 0 + _ ≤ _; exact Nat.le_of_eq rfl) (hb hby at_292) rfl rfl (by decide) (by decide) ?_
                rintro _ T25 L25 X25 ⟨rfl, Nq25, e25⟩
                have N25 := Fr.app N11 Nq25
                show OGo _ _ _ _ _ _ _ (T25.setTop (mkF m 295 #[.val (.int p0), .val (.int p1), .val (.int p2), .val (.int (own_c0 p0)), .val (.int (own_c1 p0)), .val (.int (own_c2 p0)), .val (.int (own_c3 p0)), .val (.ref b1), .val (.int (own_cn p2)), .val (.int (((p2.toUInt32 >>> ((3 : Int32) &&& 31).toUInt32).toInt32) &&& (3 : Int32))), .val (.ref b11_r), .val (.int (own_c0 p1)), .val (.int (1 : Int32)), .val (.int (3 : Int32))] [(.int (f6 (own_cn p2) b11_r b2_r b4_r b6_r b8_r (own_by (own_ch (own_c0 p0))) (own_by (own_ch (own_c1 p0))) (own_by (own_ch (own_c2 p0))) (own_by (own_ch (own_c3 p0))) (own_by (own_ch (own_c0 p1)))))]))
                refine OGo.step (F' := T25.setTop (mkF m 305 #[.val (.int p0), .val (.int p1), .val (.int p2), .val (.int (own_c0 p0)), .val (.int (own_c1 p0)), .val (.int (own_c2 p0)), .val (.int (own_c3 p0)), .val (.ref b1), .val (.int (own_cn p2)), .val (.int (((p2.toUInt32 >>> ((3 : Int32) &&& 31).toUInt32).toInt32) &&& (3 : Int32))), .val (.ref b11_r), .val (.int (own_c0 p1)), .val (.int (1 : Int32)), .val (.int (3 : Int32))] [(.int (1 : Int32))])) (fun t kt => ?_) ?_
                · show Steps p.tables e below (T25.setTop (mkF m 295 #[.val (.int p0), .val (.int p1), .val (.int p2), .val (.int (own_c0 p0)), .val (.int (own_c1 p0)), .val (.int (own_c2 p0)), .val (.int (own_c3 p0)), .val (.ref b1), .val (.int (own_cn p2)), .val (.int (((p2.toUInt32 >>> ((3 : Int32) &&& 31).toUInt32).toInt32) &&& (3 : Int32))), .val (.ref b11_r), .val (.int (own_c0 p1)), .val (.int (1 : Int32)), .val (.int (3 : Int32))] [(.int (f6 (own_cn p2) b11_r b2_r b4_r b6_r b8_r (own_by (own_ch (own_c0 p0))) (own_by (own_ch (own_c1 p0))) (own_by (own_ch (own_c2 p0))) (own_by (own_ch (own_c3 p0))) (own_by (own_ch (own_c0 p1)))))])) t
                  refine XS.iload X25.here hx rfl (hb hby at_295) rfl ?_
                  refine XS.icmpNo X25.here hx rfl (hb hby at_297) rfl (teq (by rw [own_fin _ (own_c0 p0) (own_c1 p0) (own_c2 p0) (own_c3 p0) (own_c0 p1) _ _ _ _ _ _ _ _ _ _ (own_e _ _ _ _ (own_r0 _) (own_r0 _) (fun q => absurd q (Nat.ne_of_lt (Nat.lt_of_lt_of_le Z10_5.lt szo_b11_r)))) (own_e _ _ _ _ (own_r1 _) (own_r0 _) (fun q => absurd q (Nat.ne_of_lt (Nat.lt_of_lt_of_le Z10_9.lt szo_b11_r)))) (own_e _ _ _ _ (own_r2 _) (own_r0 _) (fun q => absurd q (Nat.ne_of_lt (Nat.lt_of_lt_of_le Z10_13.lt szo_b11_r)))) (own_e _ _ _ _ (own_r3 _) (own_r0 _) (fun q => absurd q (Nat.ne_of_lt (Nat.lt_of_lt_of_le Z10_17.lt szo_b11_r)))) (own_cnt _), own_exp, if_neg (fun q => hc223 q.2), if_neg (fun q => hc235 q.1), if_neg (fun q => hc254 q.1), if_pos ⟨hc273, hc280⟩])).2 ?_
                  refine XS.iconst X25.here hx rfl (hb hby at_300) ?_
                  refine XS.goto X25.here hx rfl (pc0 := 301) (pc' := 305) rfl (hb hby at_301) (by decide) (by decide) ?_
                  exact kt
                refine OGo.retZ X25 hx hlk (t := .boolean) (z' := (1 : Int32)) hret (by simp) (hb hby at_305) rfl ?_ (by decide) (by decide)
                show Q0 Z p0 p1 p2 w_high w_cache w_COMPACT_STRINGS h0 n0 _ T25.heap _
                rw [e25]
                exact ⟨rfl, N25, KC11⟩
              · refine OGo.step (F' := T11.setTop (mkF m 286 #[.val (.int p0), .val (.int p1), .val (.int p2), .val (.int (own_c0 p0)), .val (.int (own_c1 p0)), .val (.int (own_c2 p0)), .val (.int (own_c3 p0)), .val (.ref b1), .val (.int (own_cn p2)), .val (.int (((p2.toUInt32 >>> ((3 : Int32) &&& 31).toUInt32).toInt32) &&& (3 : Int32))), .val (.ref b11_r), .val (.int (own_c0 p1)), .val (.int (1 : Int32)), .val (.int (-1 : Int32))] [])) (fun t kt => ?_) ?_
                · show Steps p.tables e below (T11.setTop (mkF m 280 #[.val (.int p0), .val (.int p1), .val (.int p2), .val (.int (own_c0 p0)), .val (.int (own_c1 p0)), .val (.int (own_c2 p0)), .val (.int (own_c3 p0)), .val (.ref b1), .val (.int (own_cn p2)), .val (.int (((p2.toUInt32 >>> ((3 : Int32) &&& 31).toUInt32).toInt32) &&& (3 : Int32))), .val (.ref b11_r), .val (.int (own_c0 p1)), .val (.int (1 : Int32)), .val (.int (-1 : Int32))] [(.int (own_c0 p1)), (.int (own_c3 p0))])) t
                  refine XS.icmpYes X11.here hx rfl (pc0 := 280) (pc' := 286) rfl (hb hby at_280) rfl (feq hc280).2 (by decide) (by decide) ?_
                  exact kt
                refine OGo.step (F' := T11.setTop (mkF m 292 #[.val (.int p0), .val (.int p1), .val (.int p2), .val (.int (own_c0 p0)), .val (.int (own_c1 p0)), .val (.int (own_c2 p0)), .val (.int (own_c3 p0)), .val (.ref b1), .val (.int (own_cn p2)), .val (.int (((p2.toUInt32 >>> ((3 : Int32) &&& 31).toUInt32).toInt32) &&& (3 : Int32))), .val (.ref b11_r), .val (.int (own_c0 p1)), .val (.int (1 : Int32)), .val (.int (-1 : Int32))] [(.ref b11_r), (.int (own_cn p2)), (.ref b1)])) (fun t kt => ?_) ?_
                · show Steps p.tables e below (T11.setTop (mkF m 286 #[.val (.int p0), .val (.int p1), .val (.int p2), .val (.int (own_c0 p0)), .val (.int (own_c1 p0)), .val (.int (own_c2 p0)), .val (.int (own_c3 p0)), .val (.ref b1), .val (.int (own_cn p2)), .val (.int (((p2.toUInt32 >>> ((3 : Int32) &&& 31).toUInt32).toInt32) &&& (3 : Int32))), .val (.ref b11_r), .val (.int (own_c0 p1)), .val (.int (1 : Int32)), .val (.int (-1 : Int32))] [])) t
                  refine XS.aload X11.here hx rfl (hb hby at_286) rfl rfl ?_
                  refine XS.iload X11.here hx rfl (hb hby at_288) rfl ?_
                  refine XS.aload X11.here hx rfl (hb hby at_290) rfl rfl ?_
                  exact kt
                refine OGo.callS X11 hx hZ (y := (⟨"com/example/kette/kette/JsonObject", "walk", "([Ljava/lang/String;ILjava/lang/Object;)I"⟩ : MethodName)) hown (own_wd hw 28 rfl) (own_wd hw 29 rfl) (own_wd hw 30 rfl) (own_wd hw 31 rfl) (by decide) (rm6 l Z az hw [] b1 (own_cn p2) b11_r k1 b2_r b4_r b6_r b8_r b2_t b4_t b6_t b8_t (own_by (own_ch (own_c0 p0))) (own_by (own_ch (own_c1 p0))) (own_by (own_ch (own_c2 p0))) (own_by (own_ch (own_c3 p0))) b11_t (own_by (own_ch (own_c0 p1))) w_COMPACT_STRINGS T11.heap n0 (Nat.le_trans Z0 KC11.1) (V9.keep K11 nin0) (Z10_5.keep K11) (Z10_6.keep K11 nin0) (Z10_7.keep K11 nin0) (Z10_8.keep K11 nin0) (Z10_9.keep K11) (Z10_10.keep K11 nin0) (Z10_11.keep K11 nin0) (Z10_12.keep K11 nin0) (Z10_13.keep K11) (Z10_14.keep K11 nin0) (Z10_15.keep K11 nin0) (Z10_16.keep K11 nin0) (Z10_17.keep K11) (Z10_18.keep K11 nin0) (Z10_19.keep K11 nin0) (Z10_20.keep K11 nin0) P11_0 P11_1 P11_2 P11_3 hC (own_cnt _) (own_stakeep Z10_4 K11 all0)) (W := 0) (by decide) (by decide) (g := (mkF m 292 #[.val (.int p0), .val (.int p1), .val (.int p2), .val (.int (own_c0 p0)), .val (.int (own_c1 p0)), .val (.int (own_c2 p0)), .val (.int (own_c3 p0)), .val (.ref b1), .val (.int (own_cn p2)), .val (.int (((p2.toUInt32 >>> ((3 : Int32) &&& 31).toUInt32).toInt32) &&& (3 : Int32))), .val (.ref b11_r), .val (.int (own_c0 p1)), .val (.int (1 : Int32)), .val (.int (-1 : Int32))] [(.ref b11_r), (.int (own_cn p2)), (.ref b1)])) rfl (by rw [hml]; rfl) (argsL := [(.ref b1), (.int (own_cn p2)), (.ref b11_r)]) (rest := []) (lenOf pd_0_1 rfl) rfl (by show 2 * 0 + _ ≤ _; exact Nat.le_of_eq rfl) (hb hby at_292) rfl rfl (by decide) (by decide) ?_
                rintro _ T26 L26 X26 ⟨rfl, Nq26, e26⟩
                have N26 := Fr.app N11 Nq26
                show OGo _ _ _ _ _ _ _ (T26.setTop (mkF m 295 #[.val (.int p0), .val (.int p1), .val (.int p2), .val (.int (own_c0 p0)), .val (.int (own_c1 p0)), .val (.int (own_c2 p0)), .val (.int (own_c3 p0)), .val (.ref b1), .val (.int (own_cn p2)), .val (.int (((p2.toUInt32 >>> ((3 : Int32) &&& 31).toUInt32).toInt32) &&& (3 : Int32))), .val (.ref b11_r), .val (.int (own_c0 p1)), .val (.int (1 : Int32)), .val (.int (-1 : Int32))] [(.int (f6 (own_cn p2) b11_r b2_r b4_r b6_r b8_r (own_by (own_ch (own_c0 p0))) (own_by (own_ch (own_c1 p0))) (own_by (own_ch (own_c2 p0))) (own_by (own_ch (own_c3 p0))) (own_by (own_ch (own_c0 p1)))))]))
                refine OGo.step (F' := T26.setTop (mkF m 305 #[.val (.int p0), .val (.int p1), .val (.int p2), .val (.int (own_c0 p0)), .val (.int (own_c1 p0)), .val (.int (own_c2 p0)), .val (.int (own_c3 p0)), .val (.ref b1), .val (.int (own_cn p2)), .val (.int (((p2.toUInt32 >>> ((3 : Int32) &&& 31).toUInt32).toInt32) &&& (3 : Int32))), .val (.ref b11_r), .val (.int (own_c0 p1)), .val (.int (1 : Int32)), .val (.int (-1 : Int32))] [(.int (1 : Int32))])) (fun t kt => ?_) ?_
                · show Steps p.tables e below (T26.setTop (mkF m 295 #[.val (.int p0), .val (.int p1), .val (.int p2), .val (.int (own_c0 p0)), .val (.int (own_c1 p0)), .val (.int (own_c2 p0)), .val (.int (own_c3 p0)), .val (.ref b1), .val (.int (own_cn p2)), .val (.int (((p2.toUInt32 >>> ((3 : Int32) &&& 31).toUInt32).toInt32) &&& (3 : Int32))), .val (.ref b11_r), .val (.int (own_c0 p1)), .val (.int (1 : Int32)), .val (.int (-1 : Int32))] [(.int (f6 (own_cn p2) b11_r b2_r b4_r b6_r b8_r (own_by (own_ch (own_c0 p0))) (own_by (own_ch (own_c1 p0))) (own_by (own_ch (own_c2 p0))) (own_by (own_ch (own_c3 p0))) (own_by (own_ch (own_c0 p1)))))])) t
                  refine XS.iload X26.here hx rfl (hb hby at_295) rfl ?_
                  refine XS.icmpNo X26.here hx rfl (hb hby at_297) rfl (teq (by rw [own_fin _ (own_c0 p0) (own_c1 p0) (own_c2 p0) (own_c3 p0) (own_c0 p1) _ _ _ _ _ _ _ _ _ _ (own_e _ _ _ _ (own_r0 _) (own_r0 _) (fun q => absurd q (Nat.ne_of_lt (Nat.lt_of_lt_of_le Z10_5.lt szo_b11_r)))) (own_e _ _ _ _ (own_r1 _) (own_r0 _) (fun q => absurd q (Nat.ne_of_lt (Nat.lt_of_lt_of_le Z10_9.lt szo_b11_r)))) (own_e _ _ _ _ (own_r2 _) (own_r0 _) (fun q => absurd q (Nat.ne_of_lt (Nat.lt_of_lt_of_le Z10_13.lt szo_b11_r)))) (own_e _ _ _ _ (own_r3 _) (own_r0 _) (fun q => absurd q (Nat.ne_of_lt (Nat.lt_of_lt_of_le Z10_17.lt szo_b11_r)))) (own_cnt _), own_exp, if_neg (fun q => hc223 q.2), if_neg (fun q => hc235 q.1), if_neg (fun q => hc254 q.1), if_neg (fun q => hc280 q.2)])).2 ?_
                  refine XS.iconst X26.here hx rfl (hb hby at_300) ?_
                  refine XS.goto X26.here hx rfl (pc0 := 301) (pc' := 305) rfl (hb hby at_301) (by decide) (by decide) ?_
                  exact kt
                refine OGo.retZ X26 hx hlk (t := .boolean) (z' := (1 : Int32)) hret (by simp) (hb hby at_305) rfl ?_ (by decide) (by decide)
                show Q0 Z p0 p1 p2 w_high w_cache w_COMPACT_STRINGS h0 n0 _ T26.heap _
                rw [e26]
                exact ⟨rfl, N26, KC11⟩
            · refine OGo.step (F' := T11.setTop (mkF m 286 #[.val (.int p0), .val (.int p1), .val (.int p2), .val (.int (own_c0 p0)), .val (.int (own_c1 p0)), .val (.int (own_c2 p0)), .val (.int (own_c3 p0)), .val (.ref b1), .val (.int (own_cn p2)), .val (.int (((p2.toUInt32 >>> ((3 : Int32) &&& 31).toUInt32).toInt32) &&& (3 : Int32))), .val (.ref b11_r), .val (.int (own_c0 p1)), .val (.int (1 : Int32)), .val (.int (-1 : Int32))] [])) (fun t kt => ?_) ?_
              · show Steps p.tables e below (T11.setTop (mkF m 273 #[.val (.int p0), .val (.int p1), .val (.int p2), .val (.int (own_c0 p0)), .val (.int (own_c1 p0)), .val (.int (own_c2 p0)), .val (.int (own_c3 p0)), .val (.ref b1), .val (.int (own_cn p2)), .val (.int (((p2.toUInt32 >>> ((3 : Int32) &&& 31).toUInt32).toInt32) &&& (3 : Int32))), .val (.ref b11_r), .val (.int (own_c0 p1)), .val (.int (1 : Int32)), .val (.int (-1 : Int32))] [(.int (3 : Int32)), (.int (own_cn p2))])) t
                refine XS.icmpYes X11.here hx rfl (pc0 := 273) (pc' := 286) rfl (hb hby at_273) rfl (flt hc273).2.2.2 (by decide) (by decide) ?_
                exact kt
              refine OGo.step (F' := T11.setTop (mkF m 292 #[.val (.int p0), .val (.int p1), .val (.int p2), .val (.int (own_c0 p0)), .val (.int (own_c1 p0)), .val (.int (own_c2 p0)), .val (.int (own_c3 p0)), .val (.ref b1), .val (.int (own_cn p2)), .val (.int (((p2.toUInt32 >>> ((3 : Int32) &&& 31).toUInt32).toInt32) &&& (3 : Int32))), .val (.ref b11_r), .val (.int (own_c0 p1)), .val (.int (1 : Int32)), .val (.int (-1 : Int32))] [(.ref b11_r), (.int (own_cn p2)), (.ref b1)])) (fun t kt => ?_) ?_
              · show Steps p.tables e below (T11.setTop (mkF m 286 #[.val (.int p0), .val (.int p1), .val (.int p2), .val (.int (own_c0 p0)), .val (.int (own_c1 p0)), .val (.int (own_c2 p0)), .val (.int (own_c3 p0)), .val (.ref b1), .val (.int (own_cn p2)), .val (.int (((p2.toUInt32 >>> ((3 : Int32) &&& 31).toUInt32).toInt32) &&& (3 : Int32))), .val (.ref b11_r), .val (.int (own_c0 p1)), .val (.int (1 : Int32)), .val (.int (-1 : Int32))] [])) t
                refine XS.aload X11.here hx rfl (hb hby at_286) rfl rfl ?_
                refine XS.iload X11.here hx rfl (hb hby at_288) rfl ?_
                refine XS.aload X11.here hx rfl (hb hby at_290) rfl rfl ?_
                exact kt
              refine OGo.callS X11 hx hZ (y := (⟨"com/example/kette/kette/JsonObject", "walk", "([Ljava/lang/String;ILjava/lang/Object;)I"⟩ : MethodName)) hown (own_wd hw 28 rfl) (own_wd hw 29 rfl) (own_wd hw 30 rfl) (own_wd hw 31 rfl) (by decide) (rm6 l Z az hw [] b1 (own_cn p2) b11_r k1 b2_r b4_r b6_r b8_r b2_t b4_t b6_t b8_t (own_by (own_ch (own_c0 p0))) (own_by (own_ch (own_c1 p0))) (own_by (own_ch (own_c2 p0))) (own_by (own_ch (own_c3 p0))) b11_t (own_by (own_ch (own_c0 p1))) w_COMPACT_STRINGS T11.heap n0 (Nat.le_trans Z0 KC11.1) (V9.keep K11 nin0) (Z10_5.keep K11) (Z10_6.keep K11 nin0) (Z10_7.keep K11 nin0) (Z10_8.keep K11 nin0) (Z10_9.keep K11) (Z10_10.keep K11 nin0) (Z10_11.keep K11 nin0) (Z10_12.keep K11 nin0) (Z10_13.keep K11) (Z10_14.keep K11 nin0) (Z10_15.keep K11 nin0) (Z10_16.keep K11 nin0) (Z10_17.keep K11) (Z10_18.keep K11 nin0) (Z10_19.keep K11 nin0) (Z10_20.keep K11 nin0) P11_0 P11_1 P11_2 P11_3 hC (own_cnt _) (own_stakeep Z10_4 K11 all0)) (W := 0) (by decide) (by decide) (g := (mkF m 292 #[.val (.int p0), .val (.int p1), .val (.int p2), .val (.int (own_c0 p0)), .val (.int (own_c1 p0)), .val (.int (own_c2 p0)), .val (.int (own_c3 p0)), .val (.ref b1), .val (.int (own_cn p2)), .val (.int (((p2.toUInt32 >>> ((3 : Int32) &&& 31).toUInt32).toInt32) &&& (3 : Int32))), .val (.ref b11_r), .val (.int (own_c0 p1)), .val (.int (1 : Int32)), .val (.int (-1 : Int32))] [(.ref b11_r), (.int (own_cn p2)), (.ref b1)])) rfl (by rw [hml]; rfl) (argsL := [(.ref b1), (.int (own_cn p2)), (.ref b11_r)]) (rest := []) (lenOf pd_0_1 rfl) rfl (by show 2 * 0 + _ ≤ _; exact Nat.le_of_eq rfl) (hb hby at_292) rfl rfl (by decide) (by decide) ?_
              rintro _ T27 L27 X27 ⟨rfl, Nq27, e27⟩
              have N27 := Fr.app N11 Nq27
              show OGo _ _ _ _ _ _ _ (T27.setTop (mkF m 295 #[.val (.int p0), .val (.int p1), .val (.int p2), .val (.int (own_c0 p0)), .val (.int (own_c1 p0)), .val (.int (own_c2 p0)), .val (.int (own_c3 p0)), .val (.ref b1), .val (.int (own_cn p2)), .val (.int (((p2.toUInt32 >>> ((3 : Int32) &&& 31).toUInt32).toInt32) &&& (3 : Int32))), .val (.ref b11_r), .val (.int (own_c0 p1)), .val (.int (1 : Int32)), .val (.int (-1 : Int32))] [(.int (f6 (own_cn p2) b11_r b2_r b4_r b6_r b8_r (own_by (own_ch (own_c0 p0))) (own_by (own_ch (own_c1 p0))) (own_by (own_ch (own_c2 p0))) (own_by (own_ch (own_c3 p0))) (own_by (own_ch (own_c0 p1)))))]))
              refine OGo.step (F' := T27.setTop (mkF m 305 #[.val (.int p0), .val (.int p1), .val (.int p2), .val (.int (own_c0 p0)), .val (.int (own_c1 p0)), .val (.int (own_c2 p0)), .val (.int (own_c3 p0)), .val (.ref b1), .val (.int (own_cn p2)), .val (.int (((p2.toUInt32 >>> ((3 : Int32) &&& 31).toUInt32).toInt32) &&& (3 : Int32))), .val (.ref b11_r), .val (.int (own_c0 p1)), .val (.int (1 : Int32)), .val (.int (-1 : Int32))] [(.int (1 : Int32))])) (fun t kt => ?_) ?_
              · show Steps p.tables e below (T27.setTop (mkF m 295 #[.val (.int p0), .val (.int p1), .val (.int p2), .val (.int (own_c0 p0)), .val (.int (own_c1 p0)), .val (.int (own_c2 p0)), .val (.int (own_c3 p0)), .val (.ref b1), .val (.int (own_cn p2)), .val (.int (((p2.toUInt32 >>> ((3 : Int32) &&& 31).toUInt32).toInt32) &&& (3 : Int32))), .val (.ref b11_r), .val (.int (own_c0 p1)), .val (.int (1 : Int32)), .val (.int (-1 : Int32))] [(.int (f6 (own_cn p2) b11_r b2_r b4_r b6_r b8_r (own_by (own_ch (own_c0 p0))) (own_by (own_ch (own_c1 p0))) (own_by (own_ch (own_c2 p0))) (own_by (own_ch (own_c3 p0))) (own_by (own_ch (own_c0 p1)))))])) t
                refine XS.iload X27.here hx rfl (hb hby at_295) rfl ?_
                refine XS.icmpNo X27.here hx rfl (hb hby at_297) rfl (teq (by rw [own_fin _ (own_c0 p0) (own_c1 p0) (own_c2 p0) (own_c3 p0) (own_c0 p1) _ _ _ _ _ _ _ _ _ _ (own_e _ _ _ _ (own_r0 _) (own_r0 _) (fun q => absurd q (Nat.ne_of_lt (Nat.lt_of_lt_of_le Z10_5.lt szo_b11_r)))) (own_e _ _ _ _ (own_r1 _) (own_r0 _) (fun q => absurd q (Nat.ne_of_lt (Nat.lt_of_lt_of_le Z10_9.lt szo_b11_r)))) (own_e _ _ _ _ (own_r2 _) (own_r0 _) (fun q => absurd q (Nat.ne_of_lt (Nat.lt_of_lt_of_le Z10_13.lt szo_b11_r)))) (own_e _ _ _ _ (own_r3 _) (own_r0 _) (fun q => absurd q (Nat.ne_of_lt (Nat.lt_of_lt_of_le Z10_17.lt szo_b11_r)))) (own_cnt _), own_exp, if_neg (fun q => hc223 q.2), if_neg (fun q => hc235 q.1), if_neg (fun q => hc254 q.1), if_neg (fun q => hc273 q.1)])).2 ?_
                refine XS.iconst X27.here hx rfl (hb hby at_300) ?_
                refine XS.goto X27.here hx rfl (pc0 := 301) (pc' := 305) rfl (hb hby at_301) (by decide) (by decide) ?_
                exact kt
              refine OGo.retZ X27 hx hlk (t := .boolean) (z' := (1 : Int32)) hret (by simp) (hb hby at_305) rfl ?_ (by decide) (by decide)
              show Q0 Z p0 p1 p2 w_high w_cache w_COMPACT_STRINGS h0 n0 _ T27.heap _
              rw [e27]
              exact ⟨rfl, N27, KC11⟩
    · refine OGo.step (F' := T11.setTop (mkF m 232 #[.val (.int p0), .val (.int p1), .val (.int p2), .val (.int (own_c0 p0)), .val (.int (own_c1 p0)), .val (.int (own_c2 p0)), .val (.int (own_c3 p0)), .val (.ref b1), .val (.int (own_cn p2)), .val (.int (((p2.toUInt32 >>> ((3 : Int32) &&& 31).toUInt32).toInt32) &&& (3 : Int32))), .val (.ref b11_r), .val (.int (own_c0 p1)), .val (.int (1 : Int32)), .val (.int (-1 : Int32))] [])) (fun t kt => ?_) ?_
      · show Steps p.tables e below (T11.setTop (mkF m 217 #[.val (.int p0), .val (.int p1), .val (.int p2), .val (.int (own_c0 p0)), .val (.int (own_c1 p0)), .val (.int (own_c2 p0)), .val (.int (own_c3 p0)), .val (.ref b1), .val (.int (own_cn p2)), .val (.int (((p2.toUInt32 >>> ((3 : Int32) &&& 31).toUInt32).toInt32) &&& (3 : Int32))), .val (.ref b11_r), .val (.int (own_c0 p1)), .val (.int (1 : Int32)), .val (.int (-1 : Int32))] [(.int (own_cn p2))])) t
        refine XS.ifYes X11.here hx rfl (pc0 := 217) (pc' := 232) rfl (hb hby at_217) rfl ((if0 _ _).trans (flt hc217).2.2.2) (by decide) (by decide) ?_
        exact kt
      refine OGo.step (F' := T11.setTop (mkF m 235 #[.val (.int p0), .val (.int p1), .val (.int p2), .val (.int (own_c0 p0)), .val (.int (own_c1 p0)), .val (.int (own_c2 p0)), .val (.int (own_c3 p0)), .val (.ref b1), .val (.int (own_cn p2)), .val (.int (((p2.toUInt32 >>> ((3 : Int32) &&& 31).toUInt32).toInt32) &&& (3 : Int32))), .val (.ref b11_r), .val (.int (own_c0 p1)), .val (.int (1 : Int32)), .val (.int (-1 : Int32))] [(.int (1 : Int32)), (.int (own_cn p2))])) (fun t kt => ?_) ?_
      · show Steps p.tables e below (T11.setTop (mkF m 232 #[.val (.int p0), .val (.int p1), .val (.int p2), .val (.int (own_c0 p0)), .val (.int (own_c1 p0)), .val (.int (own_c2 p0)), .val (.int (own_c3 p0)), .val (.ref b1), .val (.int (own_cn p2)), .val (.int (((p2.toUInt32 >>> ((3 : Int32) &&& 31).toUInt32).toInt32) &&& (3 : Int32))), .val (.ref b11_r), .val (.int (own_c0 p1)), .val (.int (1 : Int32)), .val (.int (-1 : Int32))] [])) t
        refine XS.iload X11.here hx rfl (hb hby at_232) rfl ?_
        refine XS.iconst X11.here hx rfl (hb hby at_234) ?_
        exact kt
      by_cases hc235 : (1 : Int32) < (own_cn p2)
      · refine OGo.step (F' := T11.setTop (mkF m 238 #[.val (.int p0), .val (.int p1), .val (.int p2), .val (.int (own_c0 p0)), .val (.int (own_c1 p0)), .val (.int (own_c2 p0)), .val (.int (own_c3 p0)), .val (.ref b1), .val (.int (own_cn p2)), .val (.int (((p2.toUInt32 >>> ((3 : Int32) &&& 31).toUInt32).toInt32) &&& (3 : Int32))), .val (.ref b11_r), .val (.int (own_c0 p1)), .val (.int (1 : Int32)), .val (.int (-1 : Int32))] [])) (fun t kt => ?_) ?_
        · show Steps p.tables e below (T11.setTop (mkF m 235 #[.val (.int p0), .val (.int p1), .val (.int p2), .val (.int (own_c0 p0)), .val (.int (own_c1 p0)), .val (.int (own_c2 p0)), .val (.int (own_c3 p0)), .val (.ref b1), .val (.int (own_cn p2)), .val (.int (((p2.toUInt32 >>> ((3 : Int32) &&& 31).toUInt32).toInt32) &&& (3 : Int32))), .val (.ref b11_r), .val (.int (own_c0 p1)), .val (.int (1 : Int32)), .val (.int (-1 : Int32))] [(.int (1 : Int32)), (.int (own_cn p2))])) t
          refine XS.icmpNo X11.here hx rfl (hb hby at_235) rfl (tlt hc235).2.2.2 ?_
          exact kt
        refine OGo.step (F' := T11.setTop (mkF m 242 #[.val (.int p0), .val (.int p1), .val (.int p2), .val (.int (own_c0 p0)), .val (.int (own_c1 p0)), .val (.int (own_c2 p0)), .val (.int (own_c3 p0)), .val (.ref b1), .val (.int (own_cn p2)), .val (.int (((p2.toUInt32 >>> ((3 : Int32) &&& 31).toUInt32).toInt32) &&& (3 : Int32))), .val (.ref b11_r), .val (.int (own_c0 p1)), .val (.int (1 : Int32)), .val (.int (-1 : Int32))] [(.int (own_c0 p1)), (.int (own_c1 p0))])) (fun t kt => ?_) ?_
        · show Steps p.tables e below (T11.setTop (mkF m 238 #[.val (.int p0), .val (.int p1), .val (.int p2), .val (.int (own_c0 p0)), .val (.int (own_c1 p0)), .val (.int (own_c2 p0)), .val (.int (own_c3 p0)), .val (.ref b1), .val (.int (own_cn p2)), .val (.int (((p2.toUInt32 >>> ((3 : Int32) &&& 31).toUInt32).toInt32) &&& (3 : Int32))), .val (.ref b11_r), .val (.int (own_c0 p1)), .val (.int (1 : Int32)), .val (.int (-1 : Int32))] [])) t
          refine XS.iload X11.here hx rfl (hb hby at_238) rfl ?_
          refine XS.iload X11.here hx rfl (hb hby at_240) rfl ?_
          exact kt
        by_cases hc242 : (own_c1 p0) = (own_c0 p1)
        · refine OGo.step (F' := T11.setTop (mkF m 245 #[.val (.int p0), .val (.int p1), .val (.int p2), .val (.int (own_c0 p0)), .val (.int (own_c1 p0)), .val (.int (own_c2 p0)), .val (.int (own_c3 p0)), .val (.ref b1), .val (.int (own_cn p2)), .val (.int (((p2.toUInt32 >>> ((3 : Int32) &&& 31).toUInt32).toInt32) &&& (3 : Int32))), .val (.ref b11_r), .val (.int (own_c0 p1)), .val (.int (1 : Int32)), .val (.int (-1 : Int32))] [])) (fun t kt => ?_) ?_
          · show Steps p.tables e below (T11.setTop (mkF m 242 #[.val (.int p0), .val (.int p1), .val (.int p2), .val (.int (own_c0 p0)), .val (.int (own_c1 p0)), .val (.int (own_c2 p0)), .val (.int (own_c3 p0)), .val (.ref b1), .val (.int (own_cn p2)), .val (.int (((p2.toUInt32 >>> ((3 : Int32) &&& 31).toUInt32).toInt32) &&& (3 : Int32))), .val (.ref b11_r), .val (.int (own_c0 p1)), .val (.int (1 : Int32)), .val (.int (-1 : Int32))] [(.int (own_c0 p1)), (.int (own_c1 p0))])) t
            refine XS.icmpNo X11.here hx rfl (hb hby at_242) rfl (teq hc242).2 ?_
            exact kt
          refine OGo.step (F' := T11.setTop (mkF m 292 #[.val (.int p0), .val (.int p1), .val (.int p2), .val (.int (own_c0 p0)), .val (.int (own_c1 p0)), .val (.int (own_c2 p0)), .val (.int (own_c3 p0)), .val (.ref b1), .val (.int (own_cn p2)), .val (.int (((p2.toUInt32 >>> ((3 : Int32) &&& 31).toUInt32).toInt32) &&& (3 : Int32))), .val (.ref b11_r), .val (.int (own_c0 p1)), .val (.int (1 : Int32)), .val (.int (1 : Int32))] [(.ref b11_r), (.int (own_cn p2)), (.ref b1)])) (fun t kt => ?_) ?_
          · show Steps p.tables e below (T11.setTop (mkF m 245 #[.val (.int p0), .val (.int p1), .val (.int p2), .val (.int (own_c0 p0)), .val (.int (own_c1 p0)), .val (.int (own_c2 p0)), .val (.int (own_c3 p0)), .val (.ref b1), .val (.int (own_cn p2)), .val (.int (((p2.toUInt32 >>> ((3 : Int32) &&& 31).toUInt32).toInt32) &&& (3 : Int32))), .val (.ref b11_r), .val (.int (own_c0 p1)), .val (.int (1 : Int32)), .val (.int (-1 : Int32))] [])) t
            refine XS.iconst X11.here hx rfl (hb hby at_245) ?_
            refine XS.istore X11.here hx rfl (hb hby at_246) rfl (l' := #[.val (.int p0), .val (.int p1), .val (.int p2), .val (.int (own_c0 p0)), .val (.int (own_c1 p0)), .val (.int (own_c2 p0)), .val (.int (own_c3 p0)), .val (.ref b1), .val (.int (own_cn p2)), .val (.int (((p2.toUInt32 >>> ((3 : Int32) &&& 31).toUInt32).toInt32) &&& (3 : Int32))), .val (.ref b11_r), .val (.int (own_c0 p1)), .val (.int (1 : Int32)), .val (.int (1 : Int32))]) rfl ?_
            refine XS.goto X11.here hx rfl (pc0 := 248) (pc' := 286) rfl (hb hby at_248) (by decide) (by decide) ?_
            refine XS.aload X11.here hx rfl (hb hby at_286) rfl rfl ?_
            refine XS.iload X11.here hx rfl (hb hby at_288) rfl ?_
            refine XS.aload X11.here hx rfl (hb hby at_290) rfl rfl ?_
            exact kt
          refine OGo.callS X11 hx hZ (y := (⟨"com/example/kette/kette/JsonObject", "walk", "([Ljava/lang/String;ILjava/lang/Object;)I"⟩ : MethodName)) hown (own_wd hw 28 rfl) (own_wd hw 29 rfl) (own_wd hw 30 rfl) (own_wd hw 31 rfl) (by decide) (rm6 l Z az hw [] b1 (own_cn p2) b11_r k1 b2_r b4_r b6_r b8_r b2_t b4_t b6_t b8_t (own_by (own_ch (own_c0 p0))) (own_by (own_ch (own_c1 p0))) (own_by (own_ch (own_c2 p0))) (own_by (own_ch (own_c3 p0))) b11_t (own_by (own_ch (own_c0 p1))) w_COMPACT_STRINGS T11.heap n0 (Nat.le_trans Z0 KC11.1) (V9.keep K11 nin0) (Z10_5.keep K11) (Z10_6.keep K11 nin0) (Z10_7.keep K11 nin0) (Z10_8.keep K11 nin0) (Z10_9.keep K11) (Z10_10.keep K11 nin0) (Z10_11.keep K11 nin0) (Z10_12.keep K11 nin0) (Z10_13.keep K11) (Z10_14.keep K11 nin0) (Z10_15.keep K11 nin0) (Z10_16.keep K11 nin0) (Z10_17.keep K11) (Z10_18.keep K11 nin0) (Z10_19.keep K11 nin0) (Z10_20.keep K11 nin0) P11_0 P11_1 P11_2 P11_3 hC (own_cnt _) (own_stakeep Z10_4 K11 all0)) (W := 0) (by decide) (by decide) (g := (mkF m 292 #[.val (.int p0), .val (.int p1), .val (.int p2), .val (.int (own_c0 p0)), .val (.int (own_c1 p0)), .val (.int (own_c2 p0)), .val (.int (own_c3 p0)), .val (.ref b1), .val (.int (own_cn p2)), .val (.int (((p2.toUInt32 >>> ((3 : Int32) &&& 31).toUInt32).toInt32) &&& (3 : Int32))), .val (.ref b11_r), .val (.int (own_c0 p1)), .val (.int (1 : Int32)), .val (.int (1 : Int32))] [(.ref b11_r), (.int (own_cn p2)), (.ref b1)])) rfl (by rw [hml]; rfl) (argsL := [(.ref b1), (.int (own_cn p2)), (.ref b11_r)]) (rest := []) (lenOf pd_0_1 rfl) rfl (by show 2 * 0 + _ ≤ _; exact Nat.le_of_eq rfl) (hb hby at_292) rfl rfl (by decide) (by decide) ?_
          rintro _ T28 L28 X28 ⟨rfl, Nq28, e28⟩
          have N28 := Fr.app N11 Nq28
          show OGo _ _ _ _ _ _ _ (T28.setTop (mkF m 295 #[.val (.int p0), .val (.int p1), .val (.int p2), .val (.int (own_c0 p0)), .val (.int (own_c1 p0)), .val (.int (own_c2 p0)), .val (.int (own_c3 p0)), .val (.ref b1), .val (.int (own_cn p2)), .val (.int (((p2.toUInt32 >>> ((3 : Int32) &&& 31).toUInt32).toInt32) &&& (3 : Int32))), .val (.ref b11_r), .val (.int (own_c0 p1)), .val (.int (1 : Int32)), .val (.int (1 : Int32))] [(.int (f6 (own_cn p2) b11_r b2_r b4_r b6_r b8_r (own_by (own_ch (own_c0 p0))) (own_by (own_ch (own_c1 p0))) (own_by (own_ch (own_c2 p0))) (own_by (own_ch (own_c3 p0))) (own_by (own_ch (own_c0 p1)))))]))
          refine OGo.step (F' := T28.setTop (mkF m 305 #[.val (.int p0), .val (.int p1), .val (.int p2), .val (.int (own_c0 p0)), .val (.int (own_c1 p0)), .val (.int (own_c2 p0)), .val (.int (own_c3 p0)), .val (.ref b1), .val (.int (own_cn p2)), .val (.int (((p2.toUInt32 >>> ((3 : Int32) &&& 31).toUInt32).toInt32) &&& (3 : Int32))), .val (.ref b11_r), .val (.int (own_c0 p1)), .val (.int (1 : Int32)), .val (.int (1 : Int32))] [(.int (1 : Int32))])) (fun t kt => ?_) ?_
          · show Steps p.tables e below (T28.setTop (mkF m 295 #[.val (.int p0), .val (.int p1), .val (.int p2), .val (.int (own_c0 p0)), .val (.int (own_c1 p0)), .val (.int (own_c2 p0)), .val (.int (own_c3 p0)), .val (.ref b1), .val (.int (own_cn p2)), .val (.int (((p2.toUInt32 >>> ((3 : Int32) &&& 31).toUInt32).toInt32) &&& (3 : Int32))), .val (.ref b11_r), .val (.int (own_c0 p1)), .val (.int (1 : Int32)), .val (.int (1 : Int32))] [(.int (f6 (own_cn p2) b11_r b2_r b4_r b6_r b8_r (own_by (own_ch (own_c0 p0))) (own_by (own_ch (own_c1 p0))) (own_by (own_ch (own_c2 p0))) (own_by (own_ch (own_c3 p0))) (own_by (own_ch (own_c0 p1)))))])) t
            refine XS.iload X28.here hx rfl (hb hby at_295) rfl ?_
            refine XS.icmpNo X28.here hx rfl (hb hby at_297) rfl (teq (by rw [own_fin _ (own_c0 p0) (own_c1 p0) (own_c2 p0) (own_c3 p0) (own_c0 p1) _ _ _ _ _ _ _ _ _ _ (own_e _ _ _ _ (own_r0 _) (own_r0 _) (fun q => absurd q (Nat.ne_of_lt (Nat.lt_of_lt_of_le Z10_5.lt szo_b11_r)))) (own_e _ _ _ _ (own_r1 _) (own_r0 _) (fun q => absurd q (Nat.ne_of_lt (Nat.lt_of_lt_of_le Z10_9.lt szo_b11_r)))) (own_e _ _ _ _ (own_r2 _) (own_r0 _) (fun q => absurd q (Nat.ne_of_lt (Nat.lt_of_lt_of_le Z10_13.lt szo_b11_r)))) (own_e _ _ _ _ (own_r3 _) (own_r0 _) (fun q => absurd q (Nat.ne_of_lt (Nat.lt_of_lt_of_le Z10_17.lt szo_b11_r)))) (own_cnt _), own_exp, if_neg (fun q => hc217 q.1), if_pos ⟨hc235, hc242⟩])).2 ?_
            refine XS.iconst X28.here hx rfl (hb hby at_300) ?_
            refine XS.goto X28.here hx rfl (pc0 := 301) (pc' := 305) rfl (hb hby at_301) (by decide) (by decide) ?_
            exact kt
          refine OGo.retZ X28 hx hlk (t := .boolean) (z' := (1 : Int32)) hret (by simp) (hb hby at_305) rfl ?_ (by decide) (by decide)
          show Q0 Z p0 p1 p2 w_high w_cache w_COMPACT_STRINGS h0 n0 _ T28.heap _
          rw [e28]
          exact ⟨rfl, N28, KC11⟩
        · refine OGo.step (F' := T11.setTop (mkF m 251 #[.val (.int p0), .val (.int p1), .val (.int p2), .val (.int (own_c0 p0)), .val (.int (own_c1 p0)), .val (.int (own_c2 p0)), .val (.int (own_c3 p0)), .val (.ref b1), .val (.int (own_cn p2)), .val (.int (((p2.toUInt32 >>> ((3 : Int32) &&& 31).toUInt32).toInt32) &&& (3 : Int32))), .val (.ref b11_r), .val (.int (own_c0 p1)), .val (.int (1 : Int32)), .val (.int (-1 : Int32))] [])) (fun t kt => ?_) ?_
          · show Steps p.tables e below (T11.setTop (mkF m 242 #[.val (.int p0), .val (.int p1), .val (.int p2), .val (.int (own_c0 p0)), .val (.int (own_c1 p0)), .val (.int (own_c2 p0)), .val (.int (own_c3 p0)), .val (.ref b1), .val (.int (own_cn p2)), .val (.int (((p2.toUInt32 >>> ((3 : Int32) &&& 31).toUInt32).toInt32) &&& (3 : Int32))), .val (.ref b11_r), .val (.int (own_c0 p1)), .val (.int (1 : Int32)), .val (.int (-1 : Int32))] [(.int (own_c0 p1)), (.int (own_c1 p0))])) t
            refine XS.icmpYes X11.here hx rfl (pc0 := 242) (pc' := 251) rfl (hb hby at_242) rfl (feq hc242).2 (by decide) (by decide) ?_
            exact kt
          refine OGo.step (F' := T11.setTop (mkF m 254 #[.val (.int p0), .val (.int p1), .val (.int p2), .val (.int (own_c0 p0)), .val (.int (own_c1 p0)), .val (.int (own_c2 p0)), .val (.int (own_c3 p0)), .val (.ref b1), .val (.int (own_cn p2)), .val (.int (((p2.toUInt32 >>> ((3 : Int32) &&& 31).toUInt32).toInt32) &&& (3 : Int32))), .val (.ref b11_r), .val (.int (own_c0 p1)), .val (.int (1 : Int32)), .val (.int (-1 : Int32))] [(.int (2 : Int32)), (.int (own_cn p2))])) (fun t kt => ?_) ?_
          · show Steps p.tables e below (T11.setTop (mkF m 251 #[.val (.int p0), .val (.int p1), .val (.int p2), .val (.int (own_c0 p0)), .val (.int (own_c1 p0)), .val (.int (own_c2 p0)), .val (.int (own_c3 p0)), .val (.ref b1), .val (.int (own_cn p2)), .val (.int (((p2.toUInt32 >>> ((3 : Int32) &&& 31).toUInt32).toInt32) &&& (3 : Int32))), .val (.ref b11_r), .val (.int (own_c0 p1)), .val (.int (1 : Int32)), .val (.int (-1 : Int32))] [])) t
            refine XS.iload X11.here hx rfl (hb hby at_251) rfl ?_
            refine XS.iconst X11.here hx rfl (hb hby at_253) ?_
            exact kt
          by_cases hc254 : (2 : Int32) < (own_cn p2)
          · refine OGo.step (F' := T11.setTop (mkF m 257 #[.val (.int p0), .val (.int p1), .val (.int p2), .val (.int (own_c0 p0)), .val (.int (own_c1 p0)), .val (.int (own_c2 p0)), .val (.int (own_c3 p0)), .val (.ref b1), .val (.int (own_cn p2)), .val (.int (((p2.toUInt32 >>> ((3 : Int32) &&& 31).toUInt32).toInt32) &&& (3 : Int32))), .val (.ref b11_r), .val (.int (own_c0 p1)), .val (.int (1 : Int32)), .val (.int (-1 : Int32))] [])) (fun t kt => ?_) ?_
            · show Steps p.tables e below (T11.setTop (mkF m 254 #[.val (.int p0), .val (.int p1), .val (.int p2), .val (.int (own_c0 p0)), .val (.int (own_c1 p0)), .val (.int (own_c2 p0)), .val (.int (own_c3 p0)), .val (.ref b1), .val (.int (own_cn p2)), .val (.int (((p2.toUInt32 >>> ((3 : Int32) &&& 31).toUInt32).toInt32) &&& (3 : Int32))), .val (.ref b11_r), .val (.int (own_c0 p1)), .val (.int (1 : Int32)), .val (.int (-1 : Int32))] [(.int (2 : Int32)), (.int (own_cn p2))])) t
              refine XS.icmpNo X11.here hx rfl (hb hby at_254) rfl (tlt hc254).2.2.2 ?_
              exact kt
            refine OGo.step (F' := T11.setTop (mkF m 261 #[.val (.int p0), .val (.int p1), .val (.int p2), .val (.int (own_c0 p0)), .val (.int (own_c1 p0)), .val (.int (own_c2 p0)), .val (.int (own_c3 p0)), .val (.ref b1), .val (.int (own_cn p2)), .val (.int (((p2.toUInt32 >>> ((3 : Int32) &&& 31).toUInt32).toInt32) &&& (3 : Int32))), .val (.ref b11_r), .val (.int (own_c0 p1)), .val (.int (1 : Int32)), .val (.int (-1 : Int32))] [(.int (own_c0 p1)), (.int (own_c2 p0))])) (fun t kt => ?_) ?_
            · show Steps p.tables e below (T11.setTop (mkF m 257 #[.val (.int p0), .val (.int p1), .val (.int p2), .val (.int (own_c0 p0)), .val (.int (own_c1 p0)), .val (.int (own_c2 p0)), .val (.int (own_c3 p0)), .val (.ref b1), .val (.int (own_cn p2)), .val (.int (((p2.toUInt32 >>> ((3 : Int32) &&& 31).toUInt32).toInt32) &&& (3 : Int32))), .val (.ref b11_r), .val (.int (own_c0 p1)), .val (.int (1 : Int32)), .val (.int (-1 : Int32))] [])) t
              refine XS.iload X11.here hx rfl (hb hby at_257) rfl ?_
              refine XS.iload X11.here hx rfl (hb hby at_259) rfl ?_
              exact kt
            by_cases hc261 : (own_c2 p0) = (own_c0 p1)
            · refine OGo.step (F' := T11.setTop (mkF m 264 #[.val (.int p0), .val (.int p1), .val (.int p2), .val (.int (own_c0 p0)), .val (.int (own_c1 p0)), .val (.int (own_c2 p0)), .val (.int (own_c3 p0)), .val (.ref b1), .val (.int (own_cn p2)), .val (.int (((p2.toUInt32 >>> ((3 : Int32) &&& 31).toUInt32).toInt32) &&& (3 : Int32))), .val (.ref b11_r), .val (.int (own_c0 p1)), .val (.int (1 : Int32)), .val (.int (-1 : Int32))] [])) (fun t kt => ?_) ?_
              · show Steps p.tables e below (T11.setTop (mkF m 261 #[.val (.int p0), .val (.int p1), .val (.int p2), .val (.int (own_c0 p0)), .val (.int (own_c1 p0)), .val (.int (own_c2 p0)), .val (.int (own_c3 p0)), .val (.ref b1), .val (.int (own_cn p2)), .val (.int (((p2.toUInt32 >>> ((3 : Int32) &&& 31).toUInt32).toInt32) &&& (3 : Int32))), .val (.ref b11_r), .val (.int (own_c0 p1)), .val (.int (1 : Int32)), .val (.int (-1 : Int32))] [(.int (own_c0 p1)), (.int (own_c2 p0))])) t
                refine XS.icmpNo X11.here hx rfl (hb hby at_261) rfl (teq hc261).2 ?_
                exact kt
              refine OGo.step (F' := T11.setTop (mkF m 292 #[.val (.int p0), .val (.int p1), .val (.int p2), .val (.int (own_c0 p0)), .val (.int (own_c1 p0)), .val (.int (own_c2 p0)), .val (.int (own_c3 p0)), .val (.ref b1), .val (.int (own_cn p2)), .val (.int (((p2.toUInt32 >>> ((3 : Int32) &&& 31).toUInt32).toInt32) &&& (3 : Int32))), .val (.ref b11_r), .val (.int (own_c0 p1)), .val (.int (1 : Int32)), .val (.int (2 : Int32))] [(.ref b11_r), (.int (own_cn p2)), (.ref b1)])) (fun t kt => ?_) ?_
              · show Steps p.tables e below (T11.setTop (mkF m 264 #[.val (.int p0), .val (.int p1), .val (.int p2), .val (.int (own_c0 p0)), .val (.int (own_c1 p0)), .val (.int (own_c2 p0)), .val (.int (own_c3 p0)), .val (.ref b1), .val (.int (own_cn p2)), .val (.int (((p2.toUInt32 >>> ((3 : Int32) &&& 31).toUInt32).toInt32) &&& (3 : Int32))), .val (.ref b11_r), .val (.int (own_c0 p1)), .val (.int (1 : Int32)), .val (.int (-1 : Int32))] [])) t
                refine XS.iconst X11.here hx rfl (hb hby at_264) ?_
                refine XS.istore X11.here hx rfl (hb hby at_265) rfl (l' := #[.val (.int p0), .val (.int p1), .val (.int p2), .val (.int (own_c0 p0)), .val (.int (own_c1 p0)), .val (.int (own_c2 p0)), .val (.int (own_c3 p0)), .val (.ref b1), .val (.int (own_cn p2)), .val (.int (((p2.toUInt32 >>> ((3 : Int32) &&& 31).toUInt32).toInt32) &&& (3 : Int32))), .val (.ref b11_r), .val (.int (own_c0 p1)), .val (.int (1 : Int32)), .val (.int (2 : Int32))]) rfl ?_
                refine XS.goto X11.here hx rfl (pc0 := 267) (pc' := 286) rfl (hb hby at_267) (by decide) (by decide) ?_
                refine XS.aload X11.here hx rfl (hb hby at_286) rfl rfl ?_
                refine XS.iload X11.here hx rfl (hb hby at_288) rfl ?_
                refine XS.aload X11.here hx rfl (hb hby at_290) rfl rfl ?_
                exact kt
              refine OGo.callS X11 hx hZ (y := (⟨"com/example/kette/kette/JsonObject", "walk", "([Ljava/lang/String;ILjava/lang/Object;)I"⟩ : MethodName)) hown (own_wd hw 28 rfl) (own_wd hw 29 rfl) (own_wd hw 30 rfl) (own_wd hw 31 rfl) (by decide) (rm6 l Z az hw [] b1 (own_cn p2) b11_r k1 b2_r b4_r b6_r b8_r b2_t b4_t b6_t b8_t (own_by (own_ch (own_c0 p0))) (own_by (own_ch (own_c1 p0))) (own_by (own_ch (own_c2 p0))) (own_by (own_ch (own_c3 p0))) b11_t (own_by (own_ch (own_c0 p1))) w_COMPACT_STRINGS T11.heap n0 (Nat.le_trans Z0 KC11.1) (V9.keep K11 nin0) (Z10_5.keep K11) (Z10_6.keep K11 nin0) (Z10_7.keep K11 nin0) (Z10_8.keep K11 nin0) (Z10_9.keep K11) (Z10_10.keep K11 nin0) (Z10_11.keep K11 nin0) (Z10_12.keep K11 nin0) (Z10_13.keep K11) (Z10_14.keep K11 nin0) (Z10_15.keep K11 nin0) (Z10_16.keep K11 nin0) (Z10_17.keep K11) (Z10_18.keep K11 nin0) (Z10_19.keep K11 nin0) (Z10_20.keep K11 nin0) P11_0 P11_1 P11_2 P11_3 hC (own_cnt _) (own_stakeep Z10_4 K11 all0)) (W := 0) (by decide) (by decide) (g := (mkF m 292 #[.val (.int p0), .val (.int p1), .val (.int p2), .val (.int (own_c0 p0)), .val (.int (own_c1 p0)), .val (.int (own_c2 p0)), .val (.int (own_c3 p0)), .val (.ref b1), .val (.int (own_cn p2)), .val (.int (((p2.toUInt32 >>> ((3 : Int32) &&& 31).toUInt32).toInt32) &&& (3 : Int32))), .val (.ref b11_r), .val (.int (own_c0 p1)), .val (.int (1 : Int32)), .val (.int (2 : Int32))] [(.ref b11_r), (.int (own_cn p2)), (.ref b1)])) rfl (by rw [hml]; rfl) (argsL := [(.ref b1), (.int (own_cn p2)), (.ref b11_r)]) (rest := []) (lenOf pd_0_1 rfl) rfl (by show 2 * 0 + _ ≤ _; exact Nat.le_of_eq rfl) (hb hby at_292) rfl rfl (by decide) (by decide) ?_
              rintro _ T29 L29 X29 ⟨rfl, Nq29, e29⟩
              have N29 := Fr.app N11 Nq29
              show OGo _ _ _ _ _ _ _ (T29.setTop (mkF m 295 #[.val (.int p0), .val (.int p1), .val (.int p2), .val (.int (own_c0 p0)), .val (.int (own_c1 p0)), .val (.int (own_c2 p0)), .val (.int (own_c3 p0)), .val (.ref b1), .val (.int (own_cn p2)), .val (.int (((p2.toUInt32 >>> ((3 : Int32) &&& 31).toUInt32).toInt32) &&& (3 : Int32))), .val (.ref b11_r), .val (.int (own_c0 p1)), .val (.int (1 : Int32)), .val (.int (2 : Int32))] [(.int (f6 (own_cn p2) b11_r b2_r b4_r b6_r b8_r (own_by (own_ch (own_c0 p0))) (own_by (own_ch (own_c1 p0))) (own_by (own_ch (own_c2 p0))) (own_by (own_ch (own_c3 p0))) (own_by (own_ch (own_c0 p1)))))]))
              refine OGo.step (F' := T29.setTop (mkF m 305 #[.val (.int p0), .val (.int p1), .val (.int p2), .val (.int (own_c0 p0)), .val (.int (own_c1 p0)), .val (.int (own_c2 p0)), .val (.int (own_c3 p0)), .val (.ref b1), .val (.int (own_cn p2)), .val (.int (((p2.toUInt32 >>> ((3 : Int32) &&& 31).toUInt32).toInt32) &&& (3 : Int32))), .val (.ref b11_r), .val (.int (own_c0 p1)), .val (.int (1 : Int32)), .val (.int (2 : Int32))] [(.int (1 : Int32))])) (fun t kt => ?_) ?_
              · show Steps p.tables e below (T29.setTop (mkF m 295 #[.val (.int p0), .val (.int p1), .val (.int p2), .val (.int (own_c0 p0)), .val (.int (own_c1 p0)), .val (.int (own_c2 p0)), .val (.int (own_c3 p0)), .val (.ref b1), .val (.int (own_cn p2)), .val (.int (((p2.toUInt32 >>> ((3 : Int32) &&& 31).toUInt32).toInt32) &&& (3 : Int32))), .val (.ref b11_r), .val (.int (own_c0 p1)), .val (.int (1 : Int32)), .val (.int (2 : Int32))] [(.int (f6 (own_cn p2) b11_r b2_r b4_r b6_r b8_r (own_by (own_ch (own_c0 p0))) (own_by (own_ch (own_c1 p0))) (own_by (own_ch (own_c2 p0))) (own_by (own_ch (own_c3 p0))) (own_by (own_ch (own_c0 p1)))))])) t
                refine XS.iload X29.here hx rfl (hb hby at_295) rfl ?_
                refine XS.icmpNo X29.here hx rfl (hb hby at_297) rfl (teq (by rw [own_fin _ (own_c0 p0) (own_c1 p0) (own_c2 p0) (own_c3 p0) (own_c0 p1) _ _ _ _ _ _ _ _ _ _ (own_e _ _ _ _ (own_r0 _) (own_r0 _) (fun q => absurd q (Nat.ne_of_lt (Nat.lt_of_lt_of_le Z10_5.lt szo_b11_r)))) (own_e _ _ _ _ (own_r1 _) (own_r0 _) (fun q => absurd q (Nat.ne_of_lt (Nat.lt_of_lt_of_le Z10_9.lt szo_b11_r)))) (own_e _ _ _ _ (own_r2 _) (own_r0 _) (fun q => absurd q (Nat.ne_of_lt (Nat.lt_of_lt_of_le Z10_13.lt szo_b11_r)))) (own_e _ _ _ _ (own_r3 _) (own_r0 _) (fun q => absurd q (Nat.ne_of_lt (Nat.lt_of_lt_of_le Z10_17.lt szo_b11_r)))) (own_cnt _), own_exp, if_neg (fun q => hc217 q.1), if_neg (fun q => hc242 q.2), if_pos ⟨hc254, hc261⟩])).2 ?_
                refine XS.iconst X29.here hx rfl (hb hby at_300) ?_
                refine XS.goto X29.here hx rfl (pc0 := 301) (pc' := 305) rfl (hb hby at_301) (by decide) (by decide) ?_
                exact kt
              refine OGo.retZ X29 hx hlk (t := .boolean) (z' := (1 : Int32)) hret (by simp) (hb hby at_305) rfl ?_ (by decide) (by decide)
              show Q0 Z p0 p1 p2 w_high w_cache w_COMPACT_STRINGS h0 n0 _ T29.heap _
              rw [e29]
              exact ⟨rfl, N29, KC11⟩
            · refine OGo.step (F' := T11.setTop (mkF m 270 #[.val (.int p0), .val (.int p1), .val (.int p2), .val (.int (own_c0 p0)), .val (.int (own_c1 p0)), .val (.int (own_c2 p0)), .val (.int (own_c3 p0)), .val (.ref b1), .val (.int (own_cn p2)), .val (.int (((p2.toUInt32 >>> ((3 : Int32) &&& 31).toUInt32).toInt32) &&& (3 : Int32))), .val (.ref b11_r), .val (.int (own_c0 p1)), .val (.int (1 : Int32)), .val (.int (-1 : Int32))] [])) (fun t kt => ?_) ?_
              · show Steps p.tables e below (T11.setTop (mkF m 261 #[.val (.int p0), .val (.int p1), .val (.int p2), .val (.int (own_c0 p0)), .val (.int (own_c1 p0)), .val (.int (own_c2 p0)), .val (.int (own_c3 p0)), .val (.ref b1), .val (.int (own_cn p2)), .val (.int (((p2.toUInt32 >>> ((3 : Int32) &&& 31).toUInt32).toInt32) &&& (3 : Int32))), .val (.ref b11_r), .val (.int (own_c0 p1)), .val (.int (1 : Int32)), .val (.int (-1 : Int32))] [(.int (own_c0 p1)), (.int (own_c2 p0))])) t
                refine XS.icmpYes X11.here hx rfl (pc0 := 261) (pc' := 270) rfl (hb hby at_261) rfl (feq hc261).2 (by decide) (by decide) ?_
                exact kt
              refine OGo.step (F' := T11.setTop (mkF m 273 #[.val (.int p0), .val (.int p1), .val (.int p2), .val (.int (own_c0 p0)), .val (.int (own_c1 p0)), .val (.int (own_c2 p0)), .val (.int (own_c3 p0)), .val (.ref b1), .val (.int (own_cn p2)), .val (.int (((p2.toUInt32 >>> ((3 : Int32) &&& 31).toUInt32).toInt32) &&& (3 : Int32))), .val (.ref b11_r), .val (.int (own_c0 p1)), .val (.int (1 : Int32)), .val (.int (-1 : Int32))] [(.int (3 : Int32)), (.int (own_cn p2))])) (fun t kt => ?_) ?_
              · show Steps p.tables e below (T11.setTop (mkF m 270 #[.val (.int p0), .val (.int p1), .val (.int p2), .val (.int (own_c0 p0)), .val (.int (own_c1 p0)), .val (.int (own_c2 p0)), .val (.int (own_c3 p0)), .val (.ref b1), .val (.int (own_cn p2)), .val (.int (((p2.toUInt32 >>> ((3 : Int32) &&& 31).toUInt32).toInt32) &&& (3 : Int32))), .val (.ref b11_r), .val (.int (own_c0 p1)), .val (.int (1 : Int32)), .val (.int (-1 : Int32))] [])) t
                refine XS.iload X11.here hx rfl (hb hby at_270) rfl ?_
                refine XS.iconst X11.here hx rfl (hb hby at_272) ?_
                exact kt
              by_cases hc273 : (3 : Int32) < (own_cn p2)
              · refine OGo.step (F' := T11.setTop (mkF m 276 #[.val (.int p0), .val (.int p1), .val (.int p2), .val (.int (own_c0 p0)), .val (.int (own_c1 p0)), .val (.int (own_c2 p0)), .val (.int (own_c3 p0)), .val (.ref b1), .val (.int (own_cn p2)), .val (.int (((p2.toUInt32 >>> ((3 : Int32) &&& 31).toUInt32).toInt32) &&& (3 : Int32))), .val (.ref b11_r), .val (.int (own_c0 p1)), .val (.int (1 : Int32)), .val (.int (-1 : Int32))] [])) (fun t kt => ?_) ?_
                · show Steps p.tables e below (T11.setTop (mkF m 273 #[.val (.int p0), .val (.int p1), .val (.int p2), .val (.int (own_c0 p0)), .val (.int (own_c1 p0)), .val (.int (own_c2 p0)), .val (.int (own_c3 p0)), .val (.ref b1), .val (.int (own_cn p2)), .val (.int (((p2.toUInt32 >>> ((3 : Int32) &&& 31).toUInt32).toInt32) &&& (3 : Int32))), .val (.ref b11_r), .val (.int (own_c0 p1)), .val (.int (1 : Int32)), .val (.int (-1 : Int32))] [(.int (3 : Int32)), (.int (own_cn p2))])) t
                  refine XS.icmpNo X11.here hx rfl (hb hby at_273) rfl (tlt hc273).2.2.2 ?_
                  exact kt
                refine OGo.step (F' := T11.setTop (mkF m 280 #[.val (.int p0), .val (.int p1), .val (.int p2), .val (.int (own_c0 p0)), .val (.int (own_c1 p0)), .val (.int (own_c2 p0)), .val (.int (own_c3 p0)), .val (.ref b1), .val (.int (own_cn p2)), .val (.int (((p2.toUInt32 >>> ((3 : Int32) &&& 31).toUInt32).toInt32) &&& (3 : Int32))), .val (.ref b11_r), .val (.int (own_c0 p1)), .val (.int (1 : Int32)), .val (.int (-1 : Int32))] [(.int (own_c0 p1)), (.int (own_c3 p0))])) (fun t kt => ?_) ?_
                · show Steps p.tables e below (T11.setTop (mkF m 276 #[.val (.int p0), .val (.int p1), .val (.int p2), .val (.int (own_c0 p0)), .val (.int (own_c1 p0)), .val (.int (own_c2 p0)), .val (.int (own_c3 p0)), .val (.ref b1), .val (.int (own_cn p2)), .val (.int (((p2.toUInt32 >>> ((3 : Int32) &&& 31).toUInt32).toInt32) &&& (3 : Int32))), .val (.ref b11_r), .val (.int (own_c0 p1)), .val (.int (1 : Int32)), .val (.int (-1 : Int32))] [])) t
                  refine XS.iload X11.here hx rfl (hb hby at_276) rfl ?_
                  refine XS.iload X11.here hx rfl (hb hby at_278) rfl ?_
                  exact kt
                by_cases hc280 : (own_c3 p0) = (own_c0 p1)
                · refine OGo.step (F' := T11.setTop (mkF m 283 #[.val (.int p0), .val (.int p1), .val (.int p2), .val (.int (own_c0 p0)), .val (.int (own_c1 p0)), .val (.int (own_c2 p0)), .val (.int (own_c3 p0)), .val (.ref b1), .val (.int (own_cn p2)), .val (.int (((p2.toUInt32 >>> ((3 : Int32) &&& 31).toUInt32).toInt32) &&& (3 : Int32))), .val (.ref b11_r), .val (.int (own_c0 p1)), .val (.int (1 : Int32)), .val (.int (-1 : Int32))] [])) (fun t kt => ?_) ?_
                  · show Steps p.tables e below (T11.setTop (mkF m 280 #[.val (.int p0), .val (.int p1), .val (.int p2), .val (.int (own_c0 p0)), .val (.int (own_c1 p0)), .val (.int (own_c2 p0)), .val (.int (own_c3 p0)), .val (.ref b1), .val (.int (own_cn p2)), .val (.int (((p2.toUInt32 >>> ((3 : Int32) &&& 31).toUInt32).toInt32) &&& (3 : Int32))), .val (.ref b11_r), .val (.int (own_c0 p1)), .val (.int (1 : Int32)), .val (.int (-1 : Int32))] [(.int (own_c0 p1)), (.int (own_c3 p0))])) t
                    refine XS.icmpNo X11.here hx rfl (hb hby at_280) rfl (teq hc280).2 ?_
                    exact kt
                  refine OGo.step (F' := T11.setTop (mkF m 292 #[.val (.int p0), .val (.int p1), .val (.int p2), .val (.int (own_c0 p0)), .val (.int (own_c1 p0)), .val (.int (own_c2 p0)), .val (.int (own_c3 p0)), .val (.ref b1), .val (.int (own_cn p2)), .val (.int (((p2.toUInt32 >>> ((3 : Int32) &&& 31).toUInt32).toInt32) &&& (3 : Int32))), .val (.ref b11_r), .val (.int (own_c0 p1)), .val (.int (1 : Int32)), .val (.int (3 : Int32))] [(.ref b11_r), (.int (own_cn p2)), (.ref b1)])) (fun t kt => ?_) ?_
                  · show Steps p.tables e below (T11.setTop (mkF m 283 #[.val (.int p0), .val (.int p1), .val (.int p2), .val (.int (own_c0 p0)), .val (.int (own_c1 p0)), .val (.int (own_c2 p0)), .val (.int (own_c3 p0)), .val (.ref b1), .val (.int (own_cn p2)), .val (.int (((p2.toUInt32 >>> ((3 : Int32) &&& 31).toUInt32).toInt32) &&& (3 : Int32))), .val (.ref b11_r), .val (.int (own_c0 p1)), .val (.int (1 : Int32)), .val (.int (-1 : Int32))] [])) t
                    refine XS.iconst X11.here hx rfl (hb hby at_283) ?_
                    refine XS.istore X11.here hx rfl (hb hby at_284) rfl (l' := #[.val (.int p0), .val (.int p1), .val (.int p2), .val (.int (own_c0 p0)), .val (.int (own_c1 p0)), .val (.int (own_c2 p0)), .val (.int (own_c3 p0)), .val (.ref b1), .val (.int (own_cn p2)), .val (.int (((p2.toUInt32 >>> ((3 : Int32) &&& 31).toUInt32).toInt32) &&& (3 : Int32))), .val (.ref b11_r), .val (.int (own_c0 p1)), .val (.int (1 : Int32)), .val (.int (3 : Int32))]) rfl ?_
                    refine XS.aload X11.here hx rfl (hb hby at_286) rfl rfl ?_
                    refine XS.iload X11.here hx rfl (hb hby at_288) rfl ?_
                    refine XS.aload X11.here hx rfl (hb hby at_290) rfl rfl ?_
                    exact kt
                  refine OGo.callS X11 hx hZ (y := (⟨"com/example/kette/kette/JsonObject", "walk", "([Ljava/lang/String;ILjava/lang/Object;)I"⟩ : MethodName)) hown (own_wd hw 28 rfl) (own_wd hw 29 rfl) (own_wd hw 30 rfl) (own_wd hw 31 rfl) (by decide) (rm6 l Z az hw [] b1 (own_cn p2) b11_r k1 b2_r b4_r b6_r b8_r b2_t b4_t b6_t b8_t (own_by (own_ch (own_c0 p0))) (own_by (own_ch (own_c1 p0))) (own_by (own_ch (own_c2 p0))) (own_by (own_ch (own_c3 p0))) b11_t (own_by (own_ch (own_c0 p1))) w_COMPACT_STRINGS T11.heap n0 (Nat.le_trans Z0 KC11.1) (V9.keep K11 nin0) (Z10_5.keep K11) (Z10_6.keep K11 nin0) (Z10_7.keep K11 nin0) (Z10_8.keep K11 nin0) (Z10_9.keep K11) (Z10_10.keep K11 nin0) (Z10_11.keep K11 nin0) (Z10_12.keep K11 nin0) (Z10_13.keep K11) (Z10_14.keep K11 nin0) (Z10_15.keep K11 nin0) (Z10_16.keep K11 nin0) (Z10_17.keep K11) (Z10_18.keep K11 nin0) (Z10_19.keep K11 nin0) (Z10_20.keep K11 nin0) P11_0 P11_1 P11_2 P11_3 hC (own_cnt _) (own_stakeep Z10_4 K11 all0)) (W := 0) (by decide) (by decide) (g := (mkF m 292 #[.val (.int p0), .val (.int p1), .val (.int p2), .val (.int (own_c0 p0)), .val (.int (own_c1 p0)), .val (.int (own_c2 p0)), .val (.int (own_c3 p0)), .val (.ref b1), .val (.int (own_cn p2)), .val (.int (((p2.toUInt32 >>> ((3 : Int32) &&& 31).toUInt32).toInt32) &&& (3 : Int32))), .val (.ref b11_r), .val (.int (own_c0 p1)), .val (.int (1 : Int32)), .val (.int (3 : Int32))] [(.ref b11_r), (.int (own_cn p2)), (.ref b1)])) rfl (by rw [hml]; rfl) (argsL := [(.ref b1), (.int (own_cn p2)), (.ref b11_r)]) (rest := []) (lenOf pd_0_1 rfl) rfl (by show 2 * 0 + _ ≤ _; exact Nat.le_of_eq rfl) (hb hby at_292) rfl rfl (by decide) (by decide) ?_
                  rintro _ T30 L30 X30 ⟨rfl, Nq30, e30⟩
                  have N30 := Fr.app N11 Nq30
                  show OGo _ _ _ _ _ _ _ (T30.setTop (mkF m 295 #[.val (.int p0), .val (.int p1), .val (.int p2), .val (.int (own_c0 p0)), .val (.int (own_c1 p0)), .val (.int (own_c2 p0)), .val (.int (own_c3 p0)), .val (.ref b1), .val (.int (own_cn p2)), .val (.int (((p2.toUInt32 >>> ((3 : Int32) &&& 31).toUInt32).toInt32) &&& (3 : Int32))), .val (.ref b11_r), .val (.int (own_c0 p1)), .val (.int (1 : Int32)), .val (.int (3 : Int32))] [(.int (f6 (own_cn p2) b11_r b2_r b4_r b6_r b8_r (own_by (own_ch (own_c0 p0))) (own_by (own_ch (own_c1 p0))) (own_by (own_ch (own_c2 p0))) (own_by (own_ch (own_c3 p0))) (own_by (own_ch (own_c0 p1)))))]))
                  refine OGo.step (F' := T30.setTop (mkF m 305 #[.val (.int p0), .val (.int p1), .val (.int p2), .val (.int (own_c0 p0)), .val (.int (own_c1 p0)), .val (.int (own_c2 p0)), .val (.int (own_c3 p0)), .val (.ref b1), .val (.int (own_cn p2)), .val (.int (((p2.toUInt32 >>> ((3 : Int32) &&& 31).toUInt32).toInt32) &&& (3 : Int32))), .val (.ref b11_r), .val (.int (own_c0 p1)), .val (.int (1 : Int32)), .val (.int (3 : Int32))] [(.int (1 : Int32))])) (fun t kt => ?_) ?_
                  · show Steps p.tables e below (T30.setTop (mkF m 295 #[.val (.int p0), .val (.int p1), .val (.int p2), .val (.int (own_c0 p0)), .val (.int (own_c1 p0)), .val (.int (own_c2 p0)), .val (.int (own_c3 p0)), .val (.ref b1), .val (.int (own_cn p2)), .val (.int (((p2.toUInt32 >>> ((3 : Int32) &&& 31).toUInt32).toInt32) &&& (3 : Int32))), .val (.ref b11_r), .val (.int (own_c0 p1)), .val (.int (1 : Int32)), .val (.int (3 : Int32))] [(.int (f6 (own_cn p2) b11_r b2_r b4_r b6_r b8_r (own_by (own_ch (own_c0 p0))) (own_by (own_ch (own_c1 p0))) (own_by (own_ch (own_c2 p0))) (own_by (own_ch (own_c3 p0))) (own_by (own_ch (own_c0 p1)))))])) t
                    refine XS.iload X30.here hx rfl (hb hby at_295) rfl ?_
                    refine XS.icmpNo X30.here hx rfl (hb hby at_297) rfl (teq (by rw [own_fin _ (own_c0 p0) (own_c1 p0) (own_c2 p0) (own_c3 p0) (own_c0 p1) _ _ _ _ _ _ _ _ _ _ (own_e _ _ _ _ (own_r0 _) (own_r0 _) (fun q => absurd q (Nat.ne_of_lt (Nat.lt_of_lt_of_le Z10_5.lt szo_b11_r)))) (own_e _ _ _ _ (own_r1 _) (own_r0 _) (fun q => absurd q (Nat.ne_of_lt (Nat.lt_of_lt_of_le Z10_9.lt szo_b11_r)))) (own_e _ _ _ _ (own_r2 _) (own_r0 _) (fun q => absurd q (Nat.ne_of_lt (Nat.lt_of_lt_of_le Z10_13.lt szo_b11_r)))) (own_e _ _ _ _ (own_r3 _) (own_r0 _) (fun q => absurd q (Nat.ne_of_lt (Nat.lt_of_lt_of_le Z10_17.lt szo_b11_r)))) (own_cnt _), own_exp, if_neg (fun q => hc217 q.1), if_neg (fun q => hc242 q.2), if_neg (fun q => hc261 q.2), if_pos ⟨hc273, hc280⟩])).2 ?_
                    refine XS.iconst X30.here hx rfl (hb hby at_300) ?_
                    refine XS.goto X30.here hx rfl (pc0 := 301) (pc' := 305) rfl (hb hby at_301) (by decide) (by decide) ?_
                    exact kt
                  refine OGo.retZ X30 hx hlk (t := .boolean) (z' := (1 : Int32)) hret (by simp) (hb hby at_305) rfl ?_ (by decide) (by decide)
                  show Q0 Z p0 p1 p2 w_high w_cache w_COMPACT_STRINGS h0 n0 _ T30.heap _
                  rw [e30]
                  exact ⟨rfl, N30, KC11⟩
                · refine OGo.step (F' := T11.setTop (mkF m 286 #[.val (.int p0), .val (.int p1), .val (.int p2), .val (.int (own_c0 p0)), .val (.int (own_c1 p0)), .val (.int (own_c2 p0)), .val (.int (own_c3 p0)), .val (.ref b1), .val (.int (own_cn p2)), .val (.int (((p2.toUInt32 >>> ((3 : Int32) &&& 31).toUInt32).toInt32) &&& (3 : Int32))), .val (.ref b11_r), .val (.int (own_c0 p1)), .val (.int (1 : Int32)), .val (.int (-1 : Int32))] [])) (fun t kt => ?_) ?_
                  · show Steps p.tables e below (T11.setTop (mkF m 280 #[.val (.int p0), .val (.int p1), .val (.int p2), .val (.int (own_c0 p0)), .val (.int (own_c1 p0)), .val (.int (own_c2 p0)), .val (.int (own_c3 p0)), .val (.ref b1), .val (.int (own_cn p2)), .val (.int (((p2.toUInt32 >>> ((3 : Int32) &&& 31).toUInt32).toInt32) &&& (3 : Int32))), .val (.ref b11_r), .val (.int (own_c0 p1)), .val (.int (1 : Int32)), .val (.int (-1 : Int32))] [(.int (own_c0 p1)), (.int (own_c3 p0))])) t
                    refine XS.icmpYes X11.here hx rfl (pc0 := 280) (pc' := 286) rfl (hb hby at_280) rfl (feq hc280).2 (by decide) (by decide) ?_
                    exact kt
                  refine OGo.step (F' := T11.setTop (mkF m 292 #[.val (.int p0), .val (.int p1), .val (.int p2), .val (.int (own_c0 p0)), .val (.int (own_c1 p0)), .val (.int (own_c2 p0)), .val (.int (own_c3 p0)), .val (.ref b1), .val (.int (own_cn p2)), .val (.int (((p2.toUInt32 >>> ((3 : Int32) &&& 31).toUInt32).toInt32) &&& (3 : Int32))), .val (.ref b11_r), .val (.int (own_c0 p1)), .val (.int (1 : Int32)), .val (.int (-1 : Int32))] [(.ref b11_r), (.int (own_cn p2)), (.ref b1)])) (fun t kt => ?_) ?_
                  · show Steps p.tables e below (T11.setTop (mkF m 286 #[.val (.int p0), .val (.int p1), .val (.int p2), .val (.int (own_c0 p0)), .val (.int (own_c1 p0)), .val (.int (own_c2 p0)), .val (.int (own_c3 p0)), .val (.ref b1), .val (.int (own_cn p2)), .val (.int (((p2.toUInt32 >>> ((3 : Int32) &&& 31).toUInt32).toInt32) &&& (3 : Int32))), .val (.ref b11_r), .val (.int (own_c0 p1)), .val (.int (1 : Int32)), .val (.int (-1 : Int32))] [])) t
                    refine XS.aload X11.here hx rfl (hb hby at_286) rfl rfl ?_
                    refine XS.iload X11.here hx rfl (hb hby at_288) rfl ?_
                    refine XS.aload X11.here hx rfl (hb hby at_290) rfl rfl ?_
                    exact kt
                  refine OGo.callS X11 hx hZ (y := (⟨"com/example/kette/kette/JsonObject", "walk", "([Ljava/lang/String;ILjava/lang/Object;)I"⟩ : MethodName)) hown (own_wd hw 28 rfl) (own_wd hw 29 rfl) (own_wd hw 30 rfl) (own_wd hw 31 rfl) (by decide) (rm6 l Z az hw [] b1 (own_cn p2) b11_r k1 b2_r b4_r b6_r b8_r b2_t b4_t b6_t b8_t (own_by (own_ch (own_c0 p0))) (own_by (own_ch (own_c1 p0))) (own_by (own_ch (own_c2 p0))) (own_by (own_ch (own_c3 p0))) b11_t (own_by (own_ch (own_c0 p1))) w_COMPACT_STRINGS T11.heap n0 (Nat.le_trans Z0 KC11.1) (V9.keep K11 nin0) (Z10_5.keep K11) (Z10_6.keep K11 nin0) (Z10_7.keep K11 nin0) (Z10_8.keep K11 nin0) (Z10_9.keep K11) (Z10_10.keep K11 nin0) (Z10_11.keep K11 nin0) (Z10_12.keep K11 nin0) (Z10_13.keep K11) (Z10_14.keep K11 nin0) (Z10_15.keep K11 nin0) (Z10_16.keep K11 nin0) (Z10_17.keep K11) (Z10_18.keep K11 nin0) (Z10_19.keep K11 nin0) (Z10_20.keep K11 nin0) P11_0 P11_1 P11_2 P11_3 hC (own_cnt _) (own_stakeep Z10_4 K11 all0)) (W := 0) (by decide) (by decide) (g := (mkF m 292 #[.val (.int p0), .val (.int p1), .val (.int p2), .val (.int (own_c0 p0)), .val (.int (own_c1 p0)), .val (.int (own_c2 p0)), .val (.int (own_c3 p0)), .val (.ref b1), .val (.int (own_cn p2)), .val (.int (((p2.toUInt32 >>> ((3 : Int32) &&& 31).toUInt32).toInt32) &&& (3 : Int32))), .val (.ref b11_r), .val (.int (own_c0 p1)), .val (.int (1 : Int32)), .val (.int (-1 : Int32))] [(.ref b11_r), (.int (own_cn p2)), (.ref b1)])) rfl (by rw [hml]; rfl) (argsL := [(.ref b1), (.int (own_cn p2)), (.ref b11_r)]) (rest := []) (lenOf pd_0_1 rfl) rfl (by show 2 * 0 + _ ≤ _; exact Nat.le_of_eq rfl) (hb hby at_292) rfl rfl (by decide) (by decide) ?_
                  rintro _ T31 L31 X31 ⟨rfl, Nq31, e31⟩
                  have N31 := Fr.app N11 Nq31
                  show OGo _ _ _ _ _ _ _ (T31.setTop (mkF m 295 #[.val (.int p0), .val (.int p1), .val (.int p2), .val (.int (own_c0 p0)), .val (.int (own_c1 p0)), .val (.int (own_c2 p0)), .val (.int (own_c3 p0)), .val (.ref b1), .val (.int (own_cn p2)), .val (.int (((p2.toUInt32 >>> ((3 : Int32) &&& 31).toUInt32).toInt32) &&& (3 : Int32))), .val (.ref b11_r), .val (.int (own_c0 p1)), .val (.int (1 : Int32)), .val (.int (-1 : Int32))] [(.int (f6 (own_cn p2) b11_r b2_r b4_r b6_r b8_r (own_by (own_ch (own_c0 p0))) (own_by (own_ch (own_c1 p0))) (own_by (own_ch (own_c2 p0))) (own_by (own_ch (own_c3 p0))) (own_by (own_ch (own_c0 p1)))))]))
                  refine OGo.step (F' := T31.setTop (mkF m 305 #[.val (.int p0), .val (.int p1), .val (.int p2), .val (.int (own_c0 p0)), .val (.int (own_c1 p0)), .val (.int (own_c2 p0)), .val (.int (own_c3 p0)), .val (.ref b1), .val (.int (own_cn p2)), .val (.int (((p2.toUInt32 >>> ((3 : Int32) &&& 31).toUInt32).toInt32) &&& (3 : Int32))), .val (.ref b11_r), .val (.int (own_c0 p1)), .val (.int (1 : Int32)), .val (.int (-1 : Int32))] [(.int (1 : Int32))])) (fun t kt => ?_) ?_
                  · show Steps p.tables e below (T31.setTop (mkF m 295 #[.val (.int p0), .val (.int p1), .val (.int p2), .val (.int (own_c0 p0)), .val (.int (own_c1 p0)), .val (.int (own_c2 p0)), .val (.int (own_c3 p0)), .val (.ref b1), .val (.int (own_cn p2)), .val (.int (((p2.toUInt32 >>> ((3 : Int32) &&& 31).toUInt32).toInt32) &&& (3 : Int32))), .val (.ref b11_r), .val (.int (own_c0 p1)), .val (.int (1 : Int32)), .val (.int (-1 : Int32))] [(.int (f6 (own_cn p2) b11_r b2_r b4_r b6_r b8_r (own_by (own_ch (own_c0 p0))) (own_by (own_ch (own_c1 p0))) (own_by (own_ch (own_c2 p0))) (own_by (own_ch (own_c3 p0))) (own_by (own_ch (own_c0 p1)))))])) t
                    refine XS.iload X31.here hx rfl (hb hby at_295) rfl ?_
                    refine XS.icmpNo X31.here hx rfl (hb hby at_297) rfl (teq (by rw [own_fin _ (own_c0 p0) (own_c1 p0) (own_c2 p0) (own_c3 p0) (own_c0 p1) _ _ _ _ _ _ _ _ _ _ (own_e _ _ _ _ (own_r0 _) (own_r0 _) (fun q => absurd q (Nat.ne_of_lt (Nat.lt_of_lt_of_le Z10_5.lt szo_b11_r)))) (own_e _ _ _ _ (own_r1 _) (own_r0 _) (fun q => absurd q (Nat.ne_of_lt (Nat.lt_of_lt_of_le Z10_9.lt szo_b11_r)))) (own_e _ _ _ _ (own_r2 _) (own_r0 _) (fun q => absurd q (Nat.ne_of_lt (Nat.lt_of_lt_of_le Z10_13.lt szo_b11_r)))) (own_e _ _ _ _ (own_r3 _) (own_r0 _) (fun q => absurd q (Nat.ne_of_lt (Nat.lt_of_lt_of_le Z10_17.lt szo_b11_r)))) (own_cnt _), own_exp, if_neg (fun q => hc217 q.1), if_neg (fun q => hc242 q.2), if_neg (fun q => hc261 q.2), if_neg (fun q => hc280 q.2)])).2 ?_
                    refine XS.iconst X31.here hx rfl (hb hby at_300) ?_
                    refine XS.goto X31.here hx rfl (pc0 := 301) (pc' := 305) rfl (hb hby at_301) (by decide) (by decide) ?_
                    exact kt
                  refine OGo.retZ X31 hx hlk (t := .boolean) (z' := (1 : Int32)) hret (by simp) (hb hby at_305) rfl ?_ (by decide) (by decide)
                  show Q0 Z p0 p1 p2 w_high w_cache w_COMPACT_STRINGS h0 n0 _ T31.heap _
                  rw [e31]
                  exact ⟨rfl, N31, KC11⟩
              · refine OGo.step (F' := T11.setTop (mkF m 286 #[.val (.int p0), .val (.int p1), .val (.int p2), .val (.int (own_c0 p0)), .val (.int (own_c1 p0)), .val (.int (own_c2 p0)), .val (.int (own_c3 p0)), .val (.ref b1), .val (.int (own_cn p2)), .val (.int (((p2.toUInt32 >>> ((3 : Int32) &&& 31).toUInt32).toInt32) &&& (3 : Int32))), .val (.ref b11_r), .val (.int (own_c0 p1)), .val (.int (1 : Int32)), .val (.int (-1 : Int32))] [])) (fun t kt => ?_) ?_
                · show Steps p.tables e below (T11.setTop (mkF m 273 #[.val (.int p0), .val (.int p1), .val (.int p2), .val (.int (own_c0 p0)), .val (.int (own_c1 p0)), .val (.int (own_c2 p0)), .val (.int (own_c3 p0)), .val (.ref b1), .val (.int (own_cn p2)), .val (.int (((p2.toUInt32 >>> ((3 : Int32) &&& 31).toUInt32).toInt32) &&& (3 : Int32))), .val (.ref b11_r), .val (.int (own_c0 p1)), .val (.int (1 : Int32)), .val (.int (-1 : Int32))] [(.int (3 : Int32)), (.int (own_cn p2))])) t
                  refine XS.icmpYes X11.here hx rfl (pc0 := 273) (pc' := 286) rfl (hb hby at_273) rfl (flt hc273).2.2.2 (by decide) (by decide) ?_
                  exact kt
                refine OGo.step (F' := T11.setTop (mkF m 292 #[.val (.int p0), .val (.int p1), .val (.int p2), .val (.int (own_c0 p0)), .val (.int (own_c1 p0)), .val (.int (own_c2 p0)), .val (.int (own_c3 p0)), .val (.ref b1), .val (.int (own_cn p2)), .val (.int (((p2.toUInt32 >>> ((3 : Int32) &&& 31).toUInt32).toInt32) &&& (3 : Int32))), .val (.ref b11_r), .val (.int (own_c0 p1)), .val (.int (1 : Int32)), .val (.int (-1 : Int32))] [(.ref b11_r), (.int (own_cn p2)), (.ref b1)])) (fun t kt => ?_) ?_
                · show Steps p.tables e below (T11.setTop (mkF m 286 #[.val (.int p0), .val (.int p1), .val (.int p2), .val (.int (own_c0 p0)), .val (.int (own_c1 p0)), .val (.int (own_c2 p0)), .val (.int (own_c3 p0)), .val (.ref b1), .val (.int (own_cn p2)), .val (.int (((p2.toUInt32 >>> ((3 : Int32) &&& 31).toUInt32).toInt32) &&& (3 : Int32))), .val (.ref b11_r), .val (.int (own_c0 p1)), .val (.int (1 : Int32)), .val (.int (-1 : Int32))] [])) t
                  refine XS.aload X11.here hx rfl (hb hby at_286) rfl rfl ?_
                  refine XS.iload X11.here hx rfl (hb hby at_288) rfl ?_
                  refine XS.aload X11.here hx rfl (hb hby at_290) rfl rfl ?_
                  exact kt
                refine OGo.callS X11 hx hZ (y := (⟨"com/example/kette/kette/JsonObject", "walk", "([Ljava/lang/String;ILjava/lang/Object;)I"⟩ : MethodName)) hown (own_wd hw 28 rfl) (own_wd hw 29 rfl) (own_wd hw 30 rfl) (own_wd hw 31 rfl) (by decide) (rm6 l Z az hw [] b1 (own_cn p2) b11_r k1 b2_r b4_r b6_r b8_r b2_t b4_t b6_t b8_t (own_by (own_ch (own_c0 p0))) (own_by (own_ch (own_c1 p0))) (own_by (own_ch (own_c2 p0))) (own_by (own_ch (own_c3 p0))) b11_t (own_by (own_ch (own_c0 p1))) w_COMPACT_STRINGS T11.heap n0 (Nat.le_trans Z0 KC11.1) (V9.keep K11 nin0) (Z10_5.keep K11) (Z10_6.keep K11 nin0) (Z10_7.keep K11 nin0) (Z10_8.keep K11 nin0) (Z10_9.keep K11) (Z10_10.keep K11 nin0) (Z10_11.keep K11 nin0) (Z10_12.keep K11 nin0) (Z10_13.keep K11) (Z10_14.keep K11 nin0) (Z10_15.keep K11 nin0) (Z10_16.keep K11 nin0) (Z10_17.keep K11) (Z10_18.keep K11 nin0) (Z10_19.keep K11 nin0) (Z10_20.keep K11 nin0) P11_0 P11_1 P11_2 P11_3 hC (own_cnt _) (own_stakeep Z10_4 K11 all0)) (W := 0) (by decide) (by decide) (g := (mkF m 292 #[.val (.int p0), .val (.int p1), .val (.int p2), .val (.int (own_c0 p0)), .val (.int (own_c1 p0)), .val (.int (own_c2 p0)), .val (.int (own_c3 p0)), .val (.ref b1), .val (.int (own_cn p2)), .val (.int (((p2.toUInt32 >>> ((3 : Int32) &&& 31).toUInt32).toInt32) &&& (3 : Int32))), .val (.ref b11_r), .val (.int (own_c0 p1)), .val (.int (1 : Int32)), .val (.int (-1 : Int32))] [(.ref b11_r), (.int (own_cn p2)), (.ref b1)])) rfl (by rw [hml]; rfl) (argsL := [(.ref b1), (.int (own_cn p2)), (.ref b11_r)]) (rest := []) (lenOf pd_0_1 rfl) rfl (by show 2 * 0 + _ ≤ _; exact Nat.le_of_eq rfl) (hb hby at_292) rfl rfl (by decide) (by decide) ?_
                rintro _ T32 L32 X32 ⟨rfl, Nq32, e32⟩
                have N32 := Fr.app N11 Nq32
                show OGo _ _ _ _ _ _ _ (T32.setTop (mkF m 295 #[.val (.int p0), .val (.int p1), .val (.int p2), .val (.int (own_c0 p0)), .val (.int (own_c1 p0)), .val (.int (own_c2 p0)), .val (.int (own_c3 p0)), .val (.ref b1), .val (.int (own_cn p2)), .val (.int (((p2.toUInt32 >>> ((3 : Int32) &&& 31).toUInt32).toInt32) &&& (3 : Int32))), .val (.ref b11_r), .val (.int (own_c0 p1)), .val (.int (1 : Int32)), .val (.int (-1 : Int32))] [(.int (f6 (own_cn p2) b11_r b2_r b4_r b6_r b8_r (own_by (own_ch (own_c0 p0))) (own_by (own_ch (own_c1 p0))) (own_by (own_ch (own_c2 p0))) (own_by (own_ch (own_c3 p0))) (own_by (own_ch (own_c0 p1)))))]))
                refine OGo.step (F' := T32.setTop (mkF m 305 #[.val (.int p0), .val (.int p1), .val (.int p2), .val (.int (own_c0 p0)), .val (.int (own_c1 p0)), .val (.int (own_c2 p0)), .val (.int (own_c3 p0)), .val (.ref b1), .val (.int (own_cn p2)), .val (.int (((p2.toUInt32 >>> ((3 : Int32) &&& 31).toUInt32).toInt32) &&& (3 : Int32))), .val (.ref b11_r), .val (.int (own_c0 p1)), .val (.int (1 : Int32)), .val (.int (-1 : Int32))] [(.int (1 : Int32))])) (fun t kt => ?_) ?_
                · show Steps p.tables e below (T32.setTop (mkF m 295 #[.val (.int p0), .val (.int p1), .val (.int p2), .val (.int (own_c0 p0)), .val (.int (own_c1 p0)), .val (.int (own_c2 p0)), .val (.int (own_c3 p0)), .val (.ref b1), .val (.int (own_cn p2)), .val (.int (((p2.toUInt32 >>> ((3 : Int32) &&& 31).toUInt32).toInt32) &&& (3 : Int32))), .val (.ref b11_r), .val (.int (own_c0 p1)), .val (.int (1 : Int32)), .val (.int (-1 : Int32))] [(.int (f6 (own_cn p2) b11_r b2_r b4_r b6_r b8_r (own_by (own_ch (own_c0 p0))) (own_by (own_ch (own_c1 p0))) (own_by (own_ch (own_c2 p0))) (own_by (own_ch (own_c3 p0))) (own_by (own_ch (own_c0 p1)))))])) t
                  refine XS.iload X32.here hx rfl (hb hby at_295) rfl ?_
                  refine XS.icmpNo X32.here hx rfl (hb hby at_297) rfl (teq (by rw [own_fin _ (own_c0 p0) (own_c1 p0) (own_c2 p0) (own_c3 p0) (own_c0 p1) _ _ _ _ _ _ _ _ _ _ (own_e _ _ _ _ (own_r0 _) (own_r0 _) (fun q => absurd q (Nat.ne_of_lt (Nat.lt_of_lt_of_le Z10_5.lt szo_b11_r)))) (own_e _ _ _ _ (own_r1 _) (own_r0 _) (fun q => absurd q (Nat.ne_of_lt (Nat.lt_of_lt_of_le Z10_9.lt szo_b11_r)))) (own_e _ _ _ _ (own_r2 _) (own_r0 _) (fun q => absurd q (Nat.ne_of_lt (Nat.lt_of_lt_of_le Z10_13.lt szo_b11_r)))) (own_e _ _ _ _ (own_r3 _) (own_r0 _) (fun q => absurd q (Nat.ne_of_lt (Nat.lt_of_lt_of_le Z10_17.lt szo_b11_r)))) (own_cnt _), own_exp, if_neg (fun q => hc217 q.1), if_neg (fun q => hc242 q.2), if_neg (fun q => hc261 q.2), if_neg (fun q => hc273 q.1)])).2 ?_
                  refine XS.iconst X32.here hx rfl (hb hby at_300) ?_
                  refine XS.goto X32.here hx rfl (pc0 := 301) (pc' := 305) rfl (hb hby at_301) (by decide) (by decide) ?_
                  exact kt
                refine OGo.retZ X32 hx hlk (t := .boolean) (z' := (1 : Int32)) hret (by simp) (hb hby at_305) rfl ?_ (by decide) (by decide)
                show Q0 Z p0 p1 p2 w_high w_cache w_COMPACT_STRINGS h0 n0 _ T32.heap _
                rw [e32]
                exact ⟨rfl, N32, KC11⟩
          · refine OGo.step (F' := T11.setTop (mkF m 270 #[.val (.int p0), .val (.int p1), .val (.int p2), .val (.int (own_c0 p0)), .val (.int (own_c1 p0)), .val (.int (own_c2 p0)), .val (.int (own_c3 p0)), .val (.ref b1), .val (.int (own_cn p2)), .val (.int (((p2.toUInt32 >>> ((3 : Int32) &&& 31).toUInt32).toInt32) &&& (3 : Int32))), .val (.ref b11_r), .val (.int (own_c0 p1)), .val (.int (1 : Int32)), .val (.int (-1 : Int32))] [])) (fun t kt => ?_) ?_
            · show Steps p.tables e below (T11.setTop (mkF m 254 #[.val (.int p0), .val (.int p1), .val (.int p2), .val (.int (own_c0 p0)), .val (.int (own_c1 p0)), .val (.int (own_c2 p0)), .val (.int (own_c3 p0)), .val (.ref b1), .val (.int (own_cn p2)), .val (.int (((p2.toUInt32 >>> ((3 : Int32) &&& 31).toUInt32).toInt32) &&& (3 : Int32))), .val (.ref b11_r), .val (.int (own_c0 p1)), .val (.int (1 : Int32)), .val (.int (-1 : Int32))] [(.int (2 : Int32)), (.int (own_cn p2))])) t
              refine XS.icmpYes X11.here hx rfl (pc0 := 254) (pc' := 270) rfl (hb hby at_254) rfl (flt hc254).2.2.2 (by decide) (by decide) ?_
              exact kt
            refine OGo.step (F' := T11.setTop (mkF m 273 #[.val (.int p0), .val (.int p1), .val (.int p2), .val (.int (own_c0 p0)), .val (.int (own_c1 p0)), .val (.int (own_c2 p0)), .val (.int (own_c3 p0)), .val (.ref b1), .val (.int (own_cn p2)), .val (.int (((p2.toUInt32 >>> ((3 : Int32) &&& 31).toUInt32).toInt32) &&& (3 : Int32))), .val (.ref b11_r), .val (.int (own_c0 p1)), .val (.int (1 : Int32)), .val (.int (-1 : Int32))] [(.int (3 : Int32)), (.int (own_cn p2))])) (fun t kt => ?_) ?_
            · show Steps p.tables e below (T11.setTop (mkF m 270 #[.val (.int p0), .val (.int p1), .val (.int p2), .val (.int (own_c0 p0)), .val (.int (own_c1 p0)), .val (.int (own_c2 p0)), .val (.int (own_c3 p0)), .val (.ref b1), .val (.int (own_cn p2)), .val (.int (((p2.toUInt32 >>> ((3 : Int32) &&& 31).toUInt32).toInt32) &&& (3 : Int32))), .val (.ref b11_r), .val (.int (own_c0 p1)), .val (.int (1 : Int32)), .val (.int (-1 : Int32))] [])) t
              refine XS.iload X11.here hx rfl (hb hby at_270) rfl ?_
              refine XS.iconst X11.here hx rfl (hb hby at_272) ?_
              exact kt
            by_cases hc273 : (3 : Int32) < (own_cn p2)
            · refine OGo.step (F' := T11.setTop (mkF m 276 #[.val (.int p0), .val (.int p1), .val (.int p2), .val (.int (own_c0 p0)), .val (.int (own_c1 p0)), .val (.int (own_c2 p0)), .val (.int (own_c3 p0)), .val (.ref b1), .val (.int (own_cn p2)), .val (.int (((p2.toUInt32 >>> ((3 : Int32) &&& 31).toUInt32).toInt32) &&& (3 : Int32))), .val (.ref b11_r), .val (.int (own_c0 p1)), .val (.int (1 : Int32)), .val (.int (-1 : Int32))] [])) (fun t kt => ?_) ?_
              · show Steps p.tables e below (T11.setTop (mkF m 273 #[.val (.int p0), .val (.int p1), .val (.int p2), .val (.int (own_c0 p0)), .val (.int (own_c1 p0)), .val (.int (own_c2 p0)), .val (.int (own_c3 p0)), .val (.ref b1), .val (.int (own_cn p2)), .val (.int (((p2.toUInt32 >>> ((3 : Int32) &&& 31).toUInt32).toInt32) &&& (3 : Int32))), .val (.ref b11_r), .val (.int (own_c0 p1)), .val (.int (1 : Int32)), .val (.int (-1 : Int32))] [(.int (3 : Int32)), (.int (own_cn p2))])) t
                refine XS.icmpNo X11.here hx rfl (hb hby at_273) rfl (tlt hc273).2.2.2 ?_
                exact kt
              refine OGo.step (F' := T11.setTop (mkF m 280 #[.val (.int p0), .val (.int p1), .val (.int p2), .val (.int (own_c0 p0)), .val (.int (own_c1 p0)), .val (.int (own_c2 p0)), .val (.int (own_c3 p0)), .val (.ref b1), .val (.int (own_cn p2)), .val (.int (((p2.toUInt32 >>> ((3 : Int32) &&& 31).toUInt32).toInt32) &&& (3 : Int32))), .val (.ref b11_r), .val (.int (own_c0 p1)), .val (.int (1 : Int32)), .val (.int (-1 : Int32))] [(.int (own_c0 p1)), (.int (own_c3 p0))])) (fun t kt => ?_) ?_
              · show Steps p.tables e below (T11.setTop (mkF m 276 #[.val (.int p0), .val (.int p1), .val (.int p2), .val (.int (own_c0 p0)), .val (.int (own_c1 p0)), .val (.int (own_c2 p0)), .val (.int (own_c3 p0)), .val (.ref b1), .val (.int (own_cn p2)), .val (.int (((p2.toUInt32 >>> ((3 : Int32) &&& 31).toUInt32).toInt32) &&& (3 : Int32))), .val (.ref b11_r), .val (.int (own_c0 p1)), .val (.int (1 : Int32)), .val (.int (-1 : Int32))] [])) t
                refine XS.iload X11.here hx rfl (hb hby at_276) rfl ?_
                refine XS.iload X11.here hx rfl (hb hby at_278) rfl ?_
                exact kt
              by_cases hc280 : (own_c3 p0) = (own_c0 p1)
              · refine OGo.step (F' := T11.setTop (mkF m 283 #[.val (.int p0), .val (.int p1), .val (.int p2), .val (.int (own_c0 p0)), .val (.int (own_c1 p0)), .val (.int (own_c2 p0)), .val (.int (own_c3 p0)), .val (.ref b1), .val (.int (own_cn p2)), .val (.int (((p2.toUInt32 >>> ((3 : Int32) &&& 31).toUInt32).toInt32) &&& (3 : Int32))), .val (.ref b11_r), .val (.int (own_c0 p1)), .val (.int (1 : Int32)), .val (.int (-1 : Int32))] [])) (fun t kt => ?_) ?_
                · show Steps p.tables e below (T11.setTop (mkF m 280 #[.val (.int p0), .val (.int p1), .val (.int p2), .val (.int (own_c0 p0)), .val (.int (own_c1 p0)), .val (.int (own_c2 p0)), .val (.int (own_c3 p0)), .val (.ref b1), .val (.int (own_cn p2)), .val (.int (((p2.toUInt32 >>> ((3 : Int32) &&& 31).toUInt32).toInt32) &&& (3 : Int32))), .val (.ref b11_r), .val (.int (own_c0 p1)), .val (.int (1 : Int32)), .val (.int (-1 : Int32))] [(.int (own_c0 p1)), (.int (own_c3 p0))])) t
                  refine XS.icmpNo X11.here hx rfl (hb hby at_280) rfl (teq hc280).2 ?_
                  exact kt
                refine OGo.step (F' := T11.setTop (mkF m 292 #[.val (.int p0), .val (.int p1), .val (.int p2), .val (.int (own_c0 p0)), .val (.int (own_c1 p0)), .val (.int (own_c2 p0)), .val (.int (own_c3 p0)), .val (.ref b1), .val (.int (own_cn p2)), .val (.int (((p2.toUInt32 >>> ((3 : Int32) &&& 31).toUInt32).toInt32) &&& (3 : Int32))), .val (.ref b11_r), .val (.int (own_c0 p1)), .val (.int (1 : Int32)), .val (.int (3 : Int32))] [(.ref b11_r), (.int (own_cn p2)), (.ref b1)])) (fun t kt => ?_) ?_
                · show Steps p.tables e below (T11.setTop (mkF m 283 #[.val (.int p0), .val (.int p1), .val (.int p2), .val (.int (own_c0 p0)), .val (.int (own_c1 p0)), .val (.int (own_c2 p0)), .val (.int (own_c3 p0)), .val (.ref b1), .val (.int (own_cn p2)), .val (.int (((p2.toUInt32 >>> ((3 : Int32) &&& 31).toUInt32).toInt32) &&& (3 : Int32))), .val (.ref b11_r), .val (.int (own_c0 p1)), .val (.int (1 : Int32)), .val (.int (-1 : Int32))] [])) t
                  refine XS.iconst X11.here hx rfl (hb hby at_283) ?_
                  refine XS.istore X11.here hx rfl (hb hby at_284) rfl (l' := #[.val (.int p0), .val (.int p1), .val (.int p2), .val (.int (own_c0 p0)), .val (.int (own_c1 p0)), .val (.int (own_c2 p0)), .val (.int (own_c3 p0)), .val (.ref b1), .val (.int (own_cn p2)), .val (.int (((p2.toUInt32 >>> ((3 : Int32) &&& 31).toUInt32).toInt32) &&& (3 : Int32))), .val (.ref b11_r), .val (.int (own_c0 p1)), .val (.int (1 : Int32)), .val (.int (3 : Int32))]) rfl ?_
                  refine XS.aload X11.here hx rfl (hb hby at_286) rfl rfl ?_
                  refine XS.iload X11.here hx rfl (hb hby at_288) rfl ?_
                  refine XS.aload X11.here hx rfl (hb hby at_290) rfl rfl ?_
                  exact kt
                refine OGo.callS X11 hx hZ (y := (⟨"com/example/kette/kette/JsonObject", "walk", "([Ljava/lang/String;ILjava/lang/Object;)I"⟩ : MethodName)) hown (own_wd hw 28 rfl) (own_wd hw 29 rfl) (own_wd hw 30 rfl) (own_wd hw 31 rfl) (by decide) (rm6 l Z az hw [] b1 (own_cn p2) b11_r k1 b2_r b4_r b6_r b8_r b2_t b4_t b6_t b8_t (own_by (own_ch (own_c0 p0))) (own_by (own_ch (own_c1 p0))) (own_by (own_ch (own_c2 p0))) (own_by (own_ch (own_c3 p0))) b11_t (own_by (own_ch (own_c0 p1))) w_COMPACT_STRINGS T11.heap n0 (Nat.le_trans Z0 KC11.1) (V9.keep K11 nin0) (Z10_5.keep K11) (Z10_6.keep K11 nin0) (Z10_7.keep K11 nin0) (Z10_8.keep K11 nin0) (Z10_9.keep K11) (Z10_10.keep K11 nin0) (Z10_11.keep K11 nin0) (Z10_12.keep K11 nin0) (Z10_13.keep K11) (Z10_14.keep K11 nin0) (Z10_15.keep K11 nin0) (Z10_16.keep K11 nin0) (Z10_17.keep K11) (Z10_18.keep K11 nin0) (Z10_19.keep K11 nin0) (Z10_20.keep K11 nin0) P11_0 P11_1 P11_2 P11_3 hC (own_cnt _) (own_stakeep Z10_4 K11 all0)) (W := 0) (by decide) (by decide) (g := (mkF m 292 #[.val (.int p0), .val (.int p1), .val (.int p2), .val (.int (own_c0 p0)), .val (.int (own_c1 p0)), .val (.int (own_c2 p0)), .val (.int (own_c3 p0)), .val (.ref b1), .val (.int (own_cn p2)), .val (.int (((p2.toUInt32 >>> ((3 : Int32) &&& 31).toUInt32).toInt32) &&& (3 : Int32))), .val (.ref b11_r), .val (.int (own_c0 p1)), .val (.int (1 : Int32)), .val (.int (3 : Int32))] [(.ref b11_r), (.int (own_cn p2)), (.ref b1)])) rfl (by rw [hml]; rfl) (argsL := [(.ref b1), (.int (own_cn p2)), (.ref b11_r)]) (rest := []) (lenOf pd_0_1 rfl) rfl (by show 2 * 0 + _ ≤ _; exact Nat.le_of_eq rfl) (hb hby at_292) rfl rfl (by decide) (by decide) ?_
                rintro _ T33 L33 X33 ⟨rfl, Nq33, e33⟩
                have N33 := Fr.app N11 Nq33
                show OGo _ _ _ _ _ _ _ (T33.setTop (mkF m 295 #[.val (.int p0), .val (.int p1), .val (.int p2), .val (.int (own_c0 p0)), .val (.int (own_c1 p0)), .val (.int (own_c2 p0)), .val (.int (own_c3 p0)), .val (.ref b1), .val (.int (own_cn p2)), .val (.int (((p2.toUInt32 >>> ((3 : Int32) &&& 31).toUInt32).toInt32) &&& (3 : Int32))), .val (.ref b11_r), .val (.int (own_c0 p1)), .val (.int (1 : Int32)), .val (.int (3 : Int32))] [(.int (f6 (own_cn p2) b11_r b2_r b4_r b6_r b8_r (own_by (own_ch (own_c0 p0))) (own_by (own_ch (own_c1 p0))) (own_by (own_ch (own_c2 p0))) (own_by (own_ch (own_c3 p0))) (own_by (own_ch (own_c0 p1)))))]))
                refine OGo.step (F' := T33.setTop (mkF m 305 #[.val (.int p0), .val (.int p1), .val (.int p2), .val (.int (own_c0 p0)), .val (.int (own_c1 p0)), .val (.int (own_c2 p0)), .val (.int (own_c3 p0)), .val (.ref b1), .val (.int (own_cn p2)), .val (.int (((p2.toUInt32 >>> ((3 : Int32) &&& 31).toUInt32).toInt32) &&& (3 : Int32))), .val (.ref b11_r), .val (.int (own_c0 p1)), .val (.int (1 : Int32)), .val (.int (3 : Int32))] [(.int (1 : Int32))])) (fun t kt => ?_) ?_
                · show Steps p.tables e below (T33.setTop (mkF m 295 #[.val (.int p0), .val (.int p1), .val (.int p2), .val (.int (own_c0 p0)), .val (.int (own_c1 p0)), .val (.int (own_c2 p0)), .val (.int (own_c3 p0)), .val (.ref b1), .val (.int (own_cn p2)), .val (.int (((p2.toUInt32 >>> ((3 : Int32) &&& 31).toUInt32).toInt32) &&& (3 : Int32))), .val (.ref b11_r), .val (.int (own_c0 p1)), .val (.int (1 : Int32)), .val (.int (3 : Int32))] [(.int (f6 (own_cn p2) b11_r b2_r b4_r b6_r b8_r (own_by (own_ch (own_c0 p0))) (own_by (own_ch (own_c1 p0))) (own_by (own_ch (own_c2 p0))) (own_by (own_ch (own_c3 p0))) (own_by (own_ch (own_c0 p1)))))])) t
                  refine XS.iload X33.here hx rfl (hb hby at_295) rfl ?_
                  refine XS.icmpNo X33.here hx rfl (hb hby at_297) rfl (teq (by rw [own_fin _ (own_c0 p0) (own_c1 p0) (own_c2 p0) (own_c3 p0) (own_c0 p1) _ _ _ _ _ _ _ _ _ _ (own_e _ _ _ _ (own_r0 _) (own_r0 _) (fun q => absurd q (Nat.ne_of_lt (Nat.lt_of_lt_of_le Z10_5.lt szo_b11_r)))) (own_e _ _ _ _ (own_r1 _) (own_r0 _) (fun q => absurd q (Nat.ne_of_lt (Nat.lt_of_lt_of_le Z10_9.lt szo_b11_r)))) (own_e _ _ _ _ (own_r2 _) (own_r0 _) (fun q => absurd q (Nat.ne_of_lt (Nat.lt_of_lt_of_le Z10_13.lt szo_b11_r)))) (own_e _ _ _ _ (own_r3 _) (own_r0 _) (fun q => absurd q (Nat.ne_of_lt (Nat.lt_of_lt_of_le Z10_17.lt szo_b11_r)))) (own_cnt _), own_exp, if_neg (fun q => hc217 q.1), if_neg (fun q => hc242 q.2), if_neg (fun q => hc254 q.1), if_pos ⟨hc273, hc280⟩])).2 ?_
                  refine XS.iconst X33.here hx rfl (hb hby at_300) ?_
                  refine XS.goto X33.here hx rfl (pc0 := 301) (pc' := 305) rfl (hb hby at_301) (by decide) (by decide) ?_
                  exact kt
                refine OGo.retZ X33 hx hlk (t := .boolean) (z' := (1 : Int32)) hret (by simp) (hb hby at_305) rfl ?_ (by decide) (by decide)
                show Q0 Z p0 p1 p2 w_high w_cache w_COMPACT_STRINGS h0 n0 _ T33.heap _
                rw [e33]
                exact ⟨rfl, N33, KC11⟩
              · refine OGo.step (F' := T11.setTop (mkF m 286 #[.val (.int p0), .val (.int p1), .val (.int p2), .val (.int (own_c0 p0)), .val (.int (own_c1 p0)), .val (.int (own_c2 p0)), .val (.int (own_c3 p0)), .val (.ref b1), .val (.int (own_cn p2)), .val (.int (((p2.toUInt32 >>> ((3 : Int32) &&& 31).toUInt32).toInt32) &&& (3 : Int32))), .val (.ref b11_r), .val (.int (own_c0 p1)), .val (.int (1 : Int32)), .val (.int (-1 : Int32))] [])) (fun t kt => ?_) ?_
                · show Steps p.tables e below (T11.setTop (mkF m 280 #[.val (.int p0), .val (.int p1), .val (.int p2), .val (.int (own_c0 p0)), .val (.int (own_c1 p0)), .val (.int (own_c2 p0)), .val (.int (own_c3 p0)), .val (.ref b1), .val (.int (own_cn p2)), .val (.int (((p2.toUInt32 >>> ((3 : Int32) &&& 31).toUInt32).toInt32) &&& (3 : Int32))), .val (.ref b11_r), .val (.int (own_c0 p1)), .val (.int (1 : Int32)), .val (.int (-1 : Int32))] [(.int (own_c0 p1)), (.int (own_c3 p0))])) t
                  refine XS.icmpYes X11.here hx rfl (pc0 := 280) (pc' := 286) rfl (hb hby at_280) rfl (feq hc280).2 (by decide) (by decide) ?_
                  exact kt
                refine OGo.step (F' := T11.setTop (mkF m 292 #[.val (.int p0), .val (.int p1), .val (.int p2), .val (.int (own_c0 p0)), .val (.int (own_c1 p0)), .val (.int (own_c2 p0)), .val (.int (own_c3 p0)), .val (.ref b1), .val (.int (own_cn p2)), .val (.int (((p2.toUInt32 >>> ((3 : Int32) &&& 31).toUInt32).toInt32) &&& (3 : Int32))), .val (.ref b11_r), .val (.int (own_c0 p1)), .val (.int (1 : Int32)), .val (.int (-1 : Int32))] [(.ref b11_r), (.int (own_cn p2)), (.ref b1)])) (fun t kt => ?_) ?_
                · show Steps p.tables e below (T11.setTop (mkF m 286 #[.val (.int p0), .val (.int p1), .val (.int p2), .val (.int (own_c0 p0)), .val (.int (own_c1 p0)), .val (.int (own_c2 p0)), .val (.int (own_c3 p0)), .val (.ref b1), .val (.int (own_cn p2)), .val (.int (((p2.toUInt32 >>> ((3 : Int32) &&& 31).toUInt32).toInt32) &&& (3 : Int32))), .val (.ref b11_r), .val (.int (own_c0 p1)), .val (.int (1 : Int32)), .val (.int (-1 : Int32))] [])) t
                  refine XS.aload X11.here hx rfl (hb hby at_286) rfl rfl ?_
                  refine XS.iload X11.here hx rfl (hb hby at_288) rfl ?_
                  refine XS.aload X11.here hx rfl (hb hby at_290) rfl rfl ?_
                  exact kt
                refine OGo.callS X11 hx hZ (y := (⟨"com/example/kette/kette/JsonObject", "walk", "([Ljava/lang/String;ILjava/lang/Object;)I"⟩ : MethodName)) hown (own_wd hw 28 rfl) (own_wd hw 29 rfl) (own_wd hw 30 rfl) (own_wd hw 31 rfl) (by decide) (rm6 l Z az hw [] b1 (own_cn p2) b11_r k1 b2_r b4_r b6_r b8_r b2_t b4_t b6_t b8_t (own_by (own_ch (own_c0 p0))) (own_by (own_ch (own_c1 p0))) (own_by (own_ch (own_c2 p0))) (own_by (own_ch (own_c3 p0))) b11_t (own_by (own_ch (own_c0 p1))) w_COMPACT_STRINGS T11.heap n0 (Nat.le_trans Z0 KC11.1) (V9.keep K11 nin0) (Z10_5.keep K11) (Z10_6.keep K11 nin0) (Z10_7.keep K11 nin0) (Z10_8.keep K11 nin0) (Z10_9.keep K11) (Z10_10.keep K11 nin0) (Z10_11.keep K11 nin0) (Z10_12.keep K11 nin0) (Z10_13.keep K11) (Z10_14.keep K11 nin0) (Z10_15.keep K11 nin0) (Z10_16.keep K11 nin0) (Z10_17.keep K11) (Z10_18.keep K11 nin0) (Z10_19.keep K11 nin0) (Z10_20.keep K11 nin0) P11_0 P11_1 P11_2 P11_3 hC (own_cnt _) (own_stakeep Z10_4 K11 all0)) (W := 0) (by decide) (by decide) (g := (mkF m 292 #[.val (.int p0), .val (.int p1), .val (.int p2), .val (.int (own_c0 p0)), .val (.int (own_c1 p0)), .val (.int (own_c2 p0)), .val (.int (own_c3 p0)), .val (.ref b1), .val (.int (own_cn p2)), .val (.int (((p2.toUInt32 >>> ((3 : Int32) &&& 31).toUInt32).toInt32) &&& (3 : Int32))), .val (.ref b11_r), .val (.int (own_c0 p1)), .val (.int (1 : Int32)), .val (.int (-1 : Int32))] [(.ref b11_r), (.int (own_cn p2)), (.ref b1)])) rfl (by rw [hml]; rfl) (argsL := [(.ref b1), (.int (own_cn p2)), (.ref b11_r)]) (rest := []) (lenOf pd_0_1 rfl) rfl (by show 2 * 0 + _ ≤ _; exact Nat.le_of_eq rfl) (hb hby at_292) rfl rfl (by decide) (by decide) ?_
                rintro _ T34 L34 X34 ⟨rfl, Nq34, e34⟩
                have N34 := Fr.app N11 Nq34
                show OGo _ _ _ _ _ _ _ (T34.setTop (mkF m 295 #[.val (.int p0), .val (.int p1), .val (.int p2), .val (.int (own_c0 p0)), .val (.int (own_c1 p0)), .val (.int (own_c2 p0)), .val (.int (own_c3 p0)), .val (.ref b1), .val (.int (own_cn p2)), .val (.int (((p2.toUInt32 >>> ((3 : Int32) &&& 31).toUInt32).toInt32) &&& (3 : Int32))), .val (.ref b11_r), .val (.int (own_c0 p1)), .val (.int (1 : Int32)), .val (.int (-1 : Int32))] [(.int (f6 (own_cn p2) b11_r b2_r b4_r b6_r b8_r (own_by (own_ch (own_c0 p0))) (own_by (own_ch (own_c1 p0))) (own_by (own_ch (own_c2 p0))) (own_by (own_ch (own_c3 p0))) (own_by (own_ch (own_c0 p1)))))]))
                refine OGo.step (F' := T34.setTop (mkF m 305 #[.val (.int p0), .val (.int p1), .val (.int p2), .val (.int (own_c0 p0)), .val (.int (own_c1 p0)), .val (.int (own_c2 p0)), .val (.int (own_c3 p0)), .val (.ref b1), .val (.int (own_cn p2)), .val (.int (((p2.toUInt32 >>> ((3 : Int32) &&& 31).toUInt32).toInt32) &&& (3 : Int32))), .val (.ref b11_r), .val (.int (own_c0 p1)), .val (.int (1 : Int32)), .val (.int (-1 : Int32))] [(.int (1 : Int32))])) (fun t kt => ?_) ?_
                · show Steps p.tables e below (T34.setTop (mkF m 295 #[.val (.int p0), .val (.int p1), .val (.int p2), .val (.int (own_c0 p0)), .val (.int (own_c1 p0)), .val (.int (own_c2 p0)), .val (.int (own_c3 p0)), .val (.ref b1), .val (.int (own_cn p2)), .val (.int (((p2.toUInt32 >>> ((3 : Int32) &&& 31).toUInt32).toInt32) &&& (3 : Int32))), .val (.ref b11_r), .val (.int (own_c0 p1)), .val (.int (1 : Int32)), .val (.int (-1 : Int32))] [(.int (f6 (own_cn p2) b11_r b2_r b4_r b6_r b8_r (own_by (own_ch (own_c0 p0))) (own_by (own_ch (own_c1 p0))) (own_by (own_ch (own_c2 p0))) (own_by (own_ch (own_c3 p0))) (own_by (own_ch (own_c0 p1)))))])) t
                  refine XS.iload X34.here hx rfl (hb hby at_295) rfl ?_
                  refine XS.icmpNo X34.here hx rfl (hb hby at_297) rfl (teq (by rw [own_fin _ (own_c0 p0) (own_c1 p0) (own_c2 p0) (own_c3 p0) (own_c0 p1) _ _ _ _ _ _ _ _ _ _ (own_e _ _ _ _ (own_r0 _) (own_r0 _) (fun q => absurd q (Nat.ne_of_lt (Nat.lt_of_lt_of_le Z10_5.lt szo_b11_r)))) (own_e _ _ _ _ (own_r1 _) (own_r0 _) (fun q => absurd q (Nat.ne_of_lt (Nat.lt_of_lt_of_le Z10_9.lt szo_b11_r)))) (own_e _ _ _ _ (own_r2 _) (own_r0 _) (fun q => absurd q (Nat.ne_of_lt (Nat.lt_of_lt_of_le Z10_13.lt szo_b11_r)))) (own_e _ _ _ _ (own_r3 _) (own_r0 _) (fun q => absurd q (Nat.ne_of_lt (Nat.lt_of_lt_of_le Z10_17.lt szo_b11_r)))) (own_cnt _), own_exp, if_neg (fun q => hc217 q.1), if_neg (fun q => hc242 q.2), if_neg (fun q => hc254 q.1), if_neg (fun q => hc280 q.2)])).2 ?_
                  refine XS.iconst X34.here hx rfl (hb hby at_300) ?_
                  refine XS.goto X34.here hx rfl (pc0 := 301) (pc' := 305) rfl (hb hby at_301) (by decide) (by decide) ?_
                  exact kt
                refine OGo.retZ X34 hx hlk (t := .boolean) (z' := (1 : Int32)) hret (by simp) (hb hby at_305) rfl ?_ (by decide) (by decide)
                show Q0 Z p0 p1 p2 w_high w_cache w_COMPACT_STRINGS h0 n0 _ T34.heap _
                rw [e34]
                exact ⟨rfl, N34, KC11⟩
            · refine OGo.step (F' := T11.setTop (mkF m 286 #[.val (.int p0), .val (.int p1), .val (.int p2), .val (.int (own_c0 p0)), .val (.int (own_c1 p0)), .val (.int (own_c2 p0)), .val (.int (own_c3 p0)), .val (.ref b1), .val (.int (own_cn p2)), .val (.int (((p2.toUInt32 >>> ((3 : Int32) &&& 31).toUInt32).toInt32) &&& (3 : Int32))), .val (.ref b11_r), .val (.int (own_c0 p1)), .val (.int (1 : Int32)), .val (.int (-1 : Int32))] [])) (fun t kt => ?_) ?_
              · show Steps p.tables e below (T11.setTop (mkF m 273 #[.val (.int p0), .val (.int p1), .val (.int p2), .val (.int (own_c0 p0)), .val (.int (own_c1 p0)), .val (.int (own_c2 p0)), .val (.int (own_c3 p0)), .val (.ref b1), .val (.int (own_cn p2)), .val (.int (((p2.toUInt32 >>> ((3 : Int32) &&& 31).toUInt32).toInt32) &&& (3 : Int32))), .val (.ref b11_r), .val (.int (own_c0 p1)), .val (.int (1 : Int32)), .val (.int (-1 : Int32))] [(.int (3 : Int32)), (.int (own_cn p2))])) t
                refine XS.icmpYes X11.here hx rfl (pc0 := 273) (pc' := 286) rfl (hb hby at_273) rfl (flt hc273).2.2.2 (by decide) (by decide) ?_
                exact kt
              refine OGo.step (F' := T11.setTop (mkF m 292 #[.val (.int p0), .val (.int p1), .val (.int p2), .val (.int (own_c0 p0)), .val (.int (own_c1 p0)), .val (.int (own_c2 p0)), .val (.int (own_c3 p0)), .val (.ref b1), .val (.int (own_cn p2)), .val (.int (((p2.toUInt32 >>> ((3 : Int32) &&& 31).toUInt32).toInt32) &&& (3 : Int32))), .val (.ref b11_r), .val (.int (own_c0 p1)), .val (.int (1 : Int32)), .val (.int (-1 : Int32))] [(.ref b11_r), (.int (own_cn p2)), (.ref b1)])) (fun t kt => ?_) ?_
              · show Steps p.tables e below (T11.setTop (mkF m 286 #[.val (.int p0), .val (.int p1), .val (.int p2), .val (.int (own_c0 p0)), .val (.int (own_c1 p0)), .val (.int (own_c2 p0)), .val (.int (own_c3 p0)), .val (.ref b1), .val (.int (own_cn p2)), .val (.int (((p2.toUInt32 >>> ((3 : Int32) &&& 31).toUInt32).toInt32) &&& (3 : Int32))), .val (.ref b11_r), .val (.int (own_c0 p1)), .val (.int (1 : Int32)), .val (.int (-1 : Int32))] [])) t
                refine XS.aload X11.here hx rfl (hb hby at_286) rfl rfl ?_
                refine XS.iload X11.here hx rfl (hb hby at_288) rfl ?_
                refine XS.aload X11.here hx rfl (hb hby at_290) rfl rfl ?_
                exact kt
              refine OGo.callS X11 hx hZ (y := (⟨"com/example/kette/kette/JsonObject", "walk", "([Ljava/lang/String;ILjava/lang/Object;)I"⟩ : MethodName)) hown (own_wd hw 28 rfl) (own_wd hw 29 rfl) (own_wd hw 30 rfl) (own_wd hw 31 rfl) (by decide) (rm6 l Z az hw [] b1 (own_cn p2) b11_r k1 b2_r b4_r b6_r b8_r b2_t b4_t b6_t b8_t (own_by (own_ch (own_c0 p0))) (own_by (own_ch (own_c1 p0))) (own_by (own_ch (own_c2 p0))) (own_by (own_ch (own_c3 p0))) b11_t (own_by (own_ch (own_c0 p1))) w_COMPACT_STRINGS T11.heap n0 (Nat.le_trans Z0 KC11.1) (V9.keep K11 nin0) (Z10_5.keep K11) (Z10_6.keep K11 nin0) (Z10_7.keep K11 nin0) (Z10_8.keep K11 nin0) (Z10_9.keep K11) (Z10_10.keep K11 nin0) (Z10_11.keep K11 nin0) (Z10_12.keep K11 nin0) (Z10_13.keep K11) (Z10_14.keep K11 nin0) (Z10_15.keep K11 nin0) (Z10_16.keep K11 nin0) (Z10_17.keep K11) (Z10_18.keep K11 nin0) (Z10_19.keep K11 nin0) (Z10_20.keep K11 nin0) P11_0 P11_1 P11_2 P11_3 hC (own_cnt _) (own_stakeep Z10_4 K11 all0)) (W := 0) (by decide) (by decide) (g := (mkF m 292 #[.val (.int p0), .val (.int p1), .val (.int p2), .val (.int (own_c0 p0)), .val (.int (own_c1 p0)), .val (.int (own_c2 p0)), .val (.int (own_c3 p0)), .val (.ref b1), .val (.int (own_cn p2)), .val (.int (((p2.toUInt32 >>> ((3 : Int32) &&& 31).toUInt32).toInt32) &&& (3 : Int32))), .val (.ref b11_r), .val (.int (own_c0 p1)), .val (.int (1 : Int32)), .val (.int (-1 : Int32))] [(.ref b11_r), (.int (own_cn p2)), (.ref b1)])) rfl (by rw [hml]; rfl) (argsL := [(.ref b1), (.int (own_cn p2)), (.ref b11_r)]) (rest := []) (lenOf pd_0_1 rfl) rfl (by show 2 * 0 + _ ≤ _; exact Nat.le_of_eq rfl) (hb hby at_292) rfl rfl (by decide) (by decide) ?_
              rintro _ T35 L35 X35 ⟨rfl, Nq35, e35⟩
              have N35 := Fr.app N11 Nq35
              show OGo _ _ _ _ _ _ _ (T35.setTop (mkF m 295 #[.val (.int p0), .val (.int p1), .val (.int p2), .val (.int (own_c0 p0)), .val (.int (own_c1 p0)), .val (.int (own_c2 p0)), .val (.int (own_c3 p0)), .val (.ref b1), .val (.int (own_cn p2)), .val (.int (((p2.toUInt32 >>> ((3 : Int32) &&& 31).toUInt32).toInt32) &&& (3 : Int32))), .val (.ref b11_r), .val (.int (own_c0 p1)), .val (.int (1 : Int32)), .val (.int (-1 : Int32))] [(.int (f6 (own_cn p2) b11_r b2_r b4_r b6_r b8_r (own_by (own_ch (own_c0 p0))) (own_by (own_ch (own_c1 p0))) (own_by (own_ch (own_c2 p0))) (own_by (own_ch (own_c3 p0))) (own_by (own_ch (own_c0 p1)))))]))
              refine OGo.step (F' := T35.setTop (mkF m 305 #[.val (.int p0), .val (.int p1), .val (.int p2), .val (.int (own_c0 p0)), .val (.int (own_c1 p0)), .val (.int (own_c2 p0)), .val (.int (own_c3 p0)), .val (.ref b1), .val (.int (own_cn p2)), .val (.int (((p2.toUInt32 >>> ((3 : Int32) &&& 31).toUInt32).toInt32) &&& (3 : Int32))), .val (.ref b11_r), .val (.int (own_c0 p1)), .val (.int (1 : Int32)), .val (.int (-1 : Int32))] [(.int (1 : Int32))])) (fun t kt => ?_) ?_
              · show Steps p.tables e below (T35.setTop (mkF m 295 #[.val (.int p0), .val (.int p1), .val (.int p2), .val (.int (own_c0 p0)), .val (.int (own_c1 p0)), .val (.int (own_c2 p0)), .val (.int (own_c3 p0)), .val (.ref b1), .val (.int (own_cn p2)), .val (.int (((p2.toUInt32 >>> ((3 : Int32) &&& 31).toUInt32).toInt32) &&& (3 : Int32))), .val (.ref b11_r), .val (.int (own_c0 p1)), .val (.int (1 : Int32)), .val (.int (-1 : Int32))] [(.int (f6 (own_cn p2) b11_r b2_r b4_r b6_r b8_r (own_by (own_ch (own_c0 p0))) (own_by (own_ch (own_c1 p0))) (own_by (own_ch (own_c2 p0))) (own_by (own_ch (own_c3 p0))) (own_by (own_ch (own_c0 p1)))))])) t
                refine XS.iload X35.here hx rfl (hb hby at_295) rfl ?_
                refine XS.icmpNo X35.here hx rfl (hb hby at_297) rfl (teq (by rw [own_fin _ (own_c0 p0) (own_c1 p0) (own_c2 p0) (own_c3 p0) (own_c0 p1) _ _ _ _ _ _ _ _ _ _ (own_e _ _ _ _ (own_r0 _) (own_r0 _) (fun q => absurd q (Nat.ne_of_lt (Nat.lt_of_lt_of_le Z10_5.lt szo_b11_r)))) (own_e _ _ _ _ (own_r1 _) (own_r0 _) (fun q => absurd q (Nat.ne_of_lt (Nat.lt_of_lt_of_le Z10_9.lt szo_b11_r)))) (own_e _ _ _ _ (own_r2 _) (own_r0 _) (fun q => absurd q (Nat.ne_of_lt (Nat.lt_of_lt_of_le Z10_13.lt szo_b11_r)))) (own_e _ _ _ _ (own_r3 _) (own_r0 _) (fun q => absurd q (Nat.ne_of_lt (Nat.lt_of_lt_of_le Z10_17.lt szo_b11_r)))) (own_cnt _), own_exp, if_neg (fun q => hc217 q.1), if_neg (fun q => hc242 q.2), if_neg (fun q => hc254 q.1), if_neg (fun q => hc273 q.1)])).2 ?_
                refine XS.iconst X35.here hx rfl (hb hby at_300) ?_
                refine XS.goto X35.here hx rfl (pc0 := 301) (pc' := 305) rfl (hb hby at_301) (by decide) (by decide) ?_
                exact kt
              refine OGo.retZ X35 hx hlk (t := .boolean) (z' := (1 : Int32)) hret (by simp) (hb hby at_305) rfl ?_ (by decide) (by decide)
              show Q0 Z p0 p1 p2 w_high w_cache w_COMPACT_STRINGS h0 n0 _ T35.heap _
              rw [e35]
              exact ⟨rfl, N35, KC11⟩
      · refine OGo.step (F' := T11.setTop (mkF m 251 #[.val (.int p0), .val (.int p1), .val (.int p2), .val (.int (own_c0 p0)), .val (.int (own_c1 p0)), .val (.int (own_c2 p0)), .val (.int (own_c3 p0)), .val (.ref b1), .val (.int (own_cn p2)), .val (.int (((p2.toUInt32 >>> ((3 : Int32) &&& 31).toUInt32).toInt32) &&& (3 : Int32))), .val (.ref b11_r), .val (.int (own_c0 p1)), .val (.int (1 : Int32)), .val (.int (-1 : Int32))] [])) (fun t kt => ?_) ?_
        · show Steps p.tables e below (T11.setTop (mkF m 235 #[.val (.int p0), .val (.int p1), .val (.int p2), .val (.int (own_c0 p0)), .val (.int (own_c1 p0)), .val (.int (own_c2 p0)), .val (.int (own_c3 p0)), .val (.ref b1), .val (.int (own_cn p2)), .val (.int (((p2.toUInt32 >>> ((3 : Int32) &&& 31).toUInt32).toInt32) &&& (3 : Int32))), .val (.ref b11_r), .val (.int (own_c0 p1)), .val (.int (1 : Int32)), .val (.int (-1 : Int32))] [(.int (1 : Int32)), (.int (own_cn p2))])) t
          refine XS.icmpYes X11.here hx rfl (pc0 := 235) (pc' := 251) rfl (hb hby at_235) rfl (flt hc235).2.2.2 (by decide) (by decide) ?_
          exact kt
        refine OGo.step (F' := T11.setTop (mkF m 254 #[.val (.int p0), .val (.int p1), .val (.int p2), .val (.int (own_c0 p0)), .val (.int (own_c1 p0)), .val (.int (own_c2 p0)), .val (.int (own_c3 p0)), .val (.ref b1), .val (.int (own_cn p2)), .val (.int (((p2.toUInt32 >>> ((3 : Int32) &&& 31).toUInt32).toInt32) &&& (3 : Int32))), .val (.ref b11_r), .val (.int (own_c0 p1)), .val (.int (1 : Int32)), .val (.int (-1 : Int32))] [(.int (2 : Int32)), (.int (own_cn p2))])) (fun t kt => ?_) ?_
        · show Steps p.tables e below (T11.setTop (mkF m 251 #[.val (.int p0), .val (.int p1), .val (.int p2), .val (.int (own_c0 p0)), .val (.int (own_c1 p0)), .val (.int (own_c2 p0)), .val (.int (own_c3 p0)), .val (.ref b1), .val (.int (own_cn p2)), .val (.int (((p2.toUInt32 >>> ((3 : Int32) &&& 31).toUInt32).toInt32) &&& (3 : Int32))), .val (.ref b11_r), .val (.int (own_c0 p1)), .val (.int (1 : Int32)), .val (.int (-1 : Int32))] [])) t
          refine XS.iload X11.here hx rfl (hb hby at_251) rfl ?_
          refine XS.iconst X11.here hx rfl (hb hby at_253) ?_
          exact kt
        by_cases hc254 : (2 : Int32) < (own_cn p2)
        · refine OGo.step (F' := T11.setTop (mkF m 257 #[.val (.int p0), .val (.int p1), .val (.int p2), .val (.int (own_c0 p0)), .val (.int (own_c1 p0)), .val (.int (own_c2 p0)), .val (.int (own_c3 p0)), .val (.ref b1), .val (.int (own_cn p2)), .val (.int (((p2.toUInt32 >>> ((3 : Int32) &&& 31).toUInt32).toInt32) &&& (3 : Int32))), .val (.ref b11_r), .val (.int (own_c0 p1)), .val (.int (1 : Int32)), .val (.int (-1 : Int32))] [])) (fun t kt => ?_) ?_
          · show Steps p.tables e below (T11.setTop (mkF m 254 #[.val (.int p0), .val (.int p1), .val (.int p2), .val (.int (own_c0 p0)), .val (.int (own_c1 p0)), .val (.int (own_c2 p0)), .val (.int (own_c3 p0)), .val (.ref b1), .val (.int (own_cn p2)), .val (.int (((p2.toUInt32 >>> ((3 : Int32) &&& 31).toUInt32).toInt32) &&& (3 : Int32))), .val (.ref b11_r), .val (.int (own_c0 p1)), .val (.int (1 : Int32)), .val (.int (-1 : Int32))] [(.int (2 : Int32)), (.int (own_cn p2))])) t
            refine XS.icmpNo X11.here hx rfl (hb hby at_254) rfl (tlt hc254).2.2.2 ?_
            exact kt
          refine OGo.step (F' := T11.setTop (mkF m 261 #[.val (.int p0), .val (.int p1), .val (.int p2), .val (.int (own_c0 p0)), .val (.int (own_c1 p0)), .val (.int (own_c2 p0)), .val (.int (own_c3 p0)), .val (.ref b1), .val (.int (own_cn p2)), .val (.int (((p2.toUInt32 >>> ((3 : Int32) &&& 31).toUInt32).toInt32) &&& (3 : Int32))), .val (.ref b11_r), .val (.int (own_c0 p1)), .val (.int (1 : Int32)), .val (.int (-1 : Int32))] [(.int (own_c0 p1)), (.int (own_c2 p0))])) (fun t kt => ?_) ?_
          · show Steps p.tables e below (T11.setTop (mkF m 257 #[.val (.int p0), .val (.int p1), .val (.int p2), .val (.int (own_c0 p0)), .val (.int (own_c1 p0)), .val (.int (own_c2 p0)), .val (.int (own_c3 p0)), .val (.ref b1), .val (.int (own_cn p2)), .val (.int (((p2.toUInt32 >>> ((3 : Int32) &&& 31).toUInt32).toInt32) &&& (3 : Int32))), .val (.ref b11_r), .val (.int (own_c0 p1)), .val (.int (1 : Int32)), .val (.int (-1 : Int32))] [])) t
            refine XS.iload X11.here hx rfl (hb hby at_257) rfl ?_
            refine XS.iload X11.here hx rfl (hb hby at_259) rfl ?_
            exact kt
          by_cases hc261 : (own_c2 p0) = (own_c0 p1)
          · refine OGo.step (F' := T11.setTop (mkF m 264 #[.val (.int p0), .val (.int p1), .val (.int p2), .val (.int (own_c0 p0)), .val (.int (own_c1 p0)), .val (.int (own_c2 p0)), .val (.int (own_c3 p0)), .val (.ref b1), .val (.int (own_cn p2)), .val (.int (((p2.toUInt32 >>> ((3 : Int32) &&& 31).toUInt32).toInt32) &&& (3 : Int32))), .val (.ref b11_r), .val (.int (own_c0 p1)), .val (.int (1 : Int32)), .val (.int (-1 : Int32))] [])) (fun t kt => ?_) ?_
            · show Steps p.tables e below (T11.setTop (mkF m 261 #[.val (.int p0), .val (.int p1), .val (.int p2), .val (.int (own_c0 p0)), .val (.int (own_c1 p0)), .val (.int (own_c2 p0)), .val (.int (own_c3 p0)), .val (.ref b1), .val (.int (own_cn p2)), .val (.int (((p2.toUInt32 >>> ((3 : Int32) &&& 31).toUInt32).toInt32) &&& (3 : Int32))), .val (.ref b11_r), .val (.int (own_c0 p1)), .val (.int (1 : Int32)), .val (.int (-1 : Int32))] [(.int (own_c0 p1)), (.int (own_c2 p0))])) t
              refine XS.icmpNo X11.here hx rfl (hb hby at_261) rfl (teq hc261).2 ?_
              exact kt
            refine OGo.step (F' := T11.setTop (mkF m 292 #[.val (.int p0), .val (.int p1), .val (.int p2), .val (.int (own_c0 p0)), .val (.int (own_c1 p0)), .val (.int (own_c2 p0)), .val (.int (own_c3 p0)), .val (.ref b1), .val (.int (own_cn p2)), .val (.int (((p2.toUInt32 >>> ((3 : Int32) &&& 31).toUInt32).toInt32) &&& (3 : Int32))), .val (.ref b11_r), .val (.int (own_c0 p1)), .val (.int (1 : Int32)), .val (.int (2 : Int32))] [(.ref b11_r), (.int (own_cn p2)), (.ref b1)])) (fun t kt => ?_) ?_
            · show Steps p.tables e below (T11.setTop (mkF m 264 #[.val (.int p0), .val (.int p1), .val (.int p2), .val (.int (own_c0 p0)), .val (.int (own_c1 p0)), .val (.int (own_c2 p0)), .val (.int (own_c3 p0)), .val (.ref b1), .val (.int (own_cn p2)), .val (.int (((p2.toUInt32 >>> ((3 : Int32) &&& 31).toUInt32).toInt32) &&& (3 : Int32))), .val (.ref b11_r), .val (.int (own_c0 p1)), .val (.int (1 : Int32)), .val (.int (-1 : Int32))] [])) t
              refine XS.iconst X11.here hx rfl (hb hby at_264) ?_
              refine XS.istore X11.here hx rfl (hb hby at_265) rfl (l' := #[.val (.int p0), .val (.int p1), .val (.int p2), .val (.int (own_c0 p0)), .val (.int (own_c1 p0)), .val (.int (own_c2 p0)), .val (.int (own_c3 p0)), .val (.ref b1), .val (.int (own_cn p2)), .val (.int (((p2.toUInt32 >>> ((3 : Int32) &&& 31).toUInt32).toInt32) &&& (3 : Int32))), .val (.ref b11_r), .val (.int (own_c0 p1)), .val (.int (1 : Int32)), .val (.int (2 : Int32))]) rfl ?_
              refine XS.goto X11.here hx rfl (pc0 := 267) (pc' := 286) rfl (hb hby at_267) (by decide) (by decide) ?_
              refine XS.aload X11.here hx rfl (hb hby at_286) rfl rfl ?_
              refine XS.iload X11.here hx rfl (hb hby at_288) rfl ?_
              refine XS.aload X11.here hx rfl (hb hby at_290) rfl rfl ?_
              exact kt
            refine OGo.callS X11 hx hZ (y := (⟨"com/example/kette/kette/JsonObject", "walk", "([Ljava/lang/String;ILjava/lang/Object;)I"⟩ : MethodName)) hown (own_wd hw 28 rfl) (own_wd hw 29 rfl) (own_wd hw 30 rfl) (own_wd hw 31 rfl) (by decide) (rm6 l Z az hw [] b1 (own_cn p2) b11_r k1 b2_r b4_r b6_r b8_r b2_t b4_t b6_t b8_t (own_by (own_ch (own_c0 p0))) (own_by (own_ch (own_c1 p0))) (own_by (own_ch (own_c2 p0))) (own_by (own_ch (own_c3 p0))) b11_t (own_by (own_ch (own_c0 p1))) w_COMPACT_STRINGS T11.heap n0 (Nat.le_trans Z0 KC11.1) (V9.keep K11 nin0) (Z10_5.keep K11) (Z10_6.keep K11 nin0) (Z10_7.keep K11 nin0) (Z10_8.keep K11 nin0) (Z10_9.keep K11) (Z10_10.keep K11 nin0) (Z10_11.keep K11 nin0) (Z10_12.keep K11 nin0) (Z10_13.keep K11) (Z10_14.keep K11 nin0) (Z10_15.keep K11 nin0) (Z10_16.keep K11 nin0) (Z10_17.keep K11) (Z10_18.keep K11 nin0) (Z10_19.keep K11 nin0) (Z10_20.keep K11 nin0) P11_0 P11_1 P11_2 P11_3 hC (own_cnt _) (own_stakeep Z10_4 K11 all0)) (W := 0) (by decide) (by decide) (g := (mkF m 292 #[.val (.int p0), .val (.int p1), .val (.int p2), .val (.int (own_c0 p0)), .val (.int (own_c1 p0)), .val (.int (own_c2 p0)), .val (.int (own_c3 p0)), .val (.ref b1), .val (.int (own_cn p2)), .val (.int (((p2.toUInt32 >>> ((3 : Int32) &&& 31).toUInt32).toInt32) &&& (3 : Int32))), .val (.ref b11_r), .val (.int (own_c0 p1)), .val (.int (1 : Int32)), .val (.int (2 : Int32))] [(.ref b11_r), (.int (own_cn p2)), (.ref b1)])) rfl (by rw [hml]; rfl) (argsL := [(.ref b1), (.int (own_cn p2)), (.ref b11_r)]) (rest := []) (lenOf pd_0_1 rfl) rfl (by show 2 * 0 + _ ≤ _; exact Nat.le_of_eq rfl) (hb hby at_292) rfl rfl (by decide) (by decide) ?_
            rintro _ T36 L36 X36 ⟨rfl, Nq36, e36⟩
            have N36 := Fr.app N11 Nq36
            show OGo _ _ _ _ _ _ _ (T36.setTop (mkF m 295 #[.val (.int p0), .val (.int p1), .val (.int p2), .val (.int (own_c0 p0)), .val (.int (own_c1 p0)), .val (.int (own_c2 p0)), .val (.int (own_c3 p0)), .val (.ref b1), .val (.int (own_cn p2)), .val (.int (((p2.toUInt32 >>> ((3 : Int32) &&& 31).toUInt32).toInt32) &&& (3 : Int32))), .val (.ref b11_r), .val (.int (own_c0 p1)), .val (.int (1 : Int32)), .val (.int (2 : Int32))] [(.int (f6 (own_cn p2) b11_r b2_r b4_r b6_r b8_r (own_by (own_ch (own_c0 p0))) (own_by (own_ch (own_c1 p0))) (own_by (own_ch (own_c2 p0))) (own_by (own_ch (own_c3 p0))) (own_by (own_ch (own_c0 p1)))))]))
            refine OGo.step (F' := T36.setTop (mkF m 305 #[.val (.int p0), .val (.int p1), .val (.int p2), .val (.int (own_c0 p0)), .val (.int (own_c1 p0)), .val (.int (own_c2 p0)), .val (.int (own_c3 p0)), .val (.ref b1), .val (.int (own_cn p2)), .val (.int (((p2.toUInt32 >>> ((3 : Int32) &&& 31).toUInt32).toInt32) &&& (3 : Int32))), .val (.ref b11_r), .val (.int (own_c0 p1)), .val (.int (1 : Int32)), .val (.int (2 : Int32))] [(.int (1 : Int32))])) (fun t kt => ?_) ?_
            · show Steps p.tables e below (T36.setTop (mkF m 295 #[.val (.int p0), .val (.int p1), .val (.int p2), .val (.int (own_c0 p0)), .val (.int (own_c1 p0)), .val (.int (own_c2 p0)), .val (.int (own_c3 p0)), .val (.ref b1), .val (.int (own_cn p2)), .val (.int (((p2.toUInt32 >>> ((3 : Int32) &&& 31).toUInt32).toInt32) &&& (3 : Int32))), .val (.ref b11_r), .val (.int (own_c0 p1)), .val (.int (1 : Int32)), .val (.int (2 : Int32))] [(.int (f6 (own_cn p2) b11_r b2_r b4_r b6_r b8_r (own_by (own_ch (own_c0 p0))) (own_by (own_ch (own_c1 p0))) (own_by (own_ch (own_c2 p0))) (own_by (own_ch (own_c3 p0))) (own_by (own_ch (own_c0 p1)))))])) t
              refine XS.iload X36.here hx rfl (hb hby at_295) rfl ?_
              refine XS.icmpNo X36.here hx rfl (hb hby at_297) rfl (teq (by rw [own_fin _ (own_c0 p0) (own_c1 p0) (own_c2 p0) (own_c3 p0) (own_c0 p1) _ _ _ _ _ _ _ _ _ _ (own_e _ _ _ _ (own_r0 _) (own_r0 _) (fun q => absurd q (Nat.ne_of_lt (Nat.lt_of_lt_of_le Z10_5.lt szo_b11_r)))) (own_e _ _ _ _ (own_r1 _) (own_r0 _) (fun q => absurd q (Nat.ne_of_lt (Nat.lt_of_lt_of_le Z10_9.lt szo_b11_r)))) (own_e _ _ _ _ (own_r2 _) (own_r0 _) (fun q => absurd q (Nat.ne_of_lt (Nat.lt_of_lt_of_le Z10_13.lt szo_b11_r)))) (own_e _ _ _ _ (own_r3 _) (own_r0 _) (fun q => absurd q (Nat.ne_of_lt (Nat.lt_of_lt_of_le Z10_17.lt szo_b11_r)))) (own_cnt _), own_exp, if_neg (fun q => hc217 q.1), if_neg (fun q => hc235 q.1), if_pos ⟨hc254, hc261⟩])).2 ?_
              refine XS.iconst X36.here hx rfl (hb hby at_300) ?_
              refine XS.goto X36.here hx rfl (pc0 := 301) (pc' := 305) rfl (hb hby at_301) (by decide) (by decide) ?_
              exact kt
            refine OGo.retZ X36 hx hlk (t := .boolean) (z' := (1 : Int32)) hret (by simp) (hb hby at_305) rfl ?_ (by decide) (by decide)
            show Q0 Z p0 p1 p2 w_high w_cache w_COMPACT_STRINGS h0 n0 _ T36.heap _
            rw [e36]
            exact ⟨rfl, N36, KC11⟩
          · refine OGo.step (F' := T11.setTop (mkF m 270 #[.val (.int p0), .val (.int p1), .val (.int p2), .val (.int (own_c0 p0)), .val (.int (own_c1 p0)), .val (.int (own_c2 p0)), .val (.int (own_c3 p0)), .val (.ref b1), .val (.int (own_cn p2)), .val (.int (((p2.toUInt32 >>> ((3 : Int32) &&& 31).toUInt32).toInt32) &&& (3 : Int32))), .val (.ref b11_r), .val (.int (own_c0 p1)), .val (.int (1 : Int32)), .val (.int (-1 : Int32))] [])) (fun t kt => ?_) ?_
            · show Steps p.tables e below (T11.setTop (mkF m 261 #[.val (.int p0), .val (.int p1), .val (.int p2), .val (.int (own_c0 p0)), .val (.int (own_c1 p0)), .val (.int (own_c2 p0)), .val (.int (own_c3 p0)), .val (.ref b1), .val (.int (own_cn p2)), .val (.int (((p2.toUInt32 >>> ((3 : Int32) &&& 31).toUInt32).toInt32) &&& (3 : Int32))), .val (.ref b11_r), .val (.int (own_c0 p1)), .val (.int (1 : Int32)), .val (.int (-1 : Int32))] [(.int (own_c0 p1)), (.int (own_c2 p0))])) t
              refine XS.icmpYes X11.here hx rfl (pc0 := 261) (pc' := 270) rfl (hb hby at_261) rfl (feq hc261).2 (by decide) (by decide) ?_
              exact kt
            refine OGo.step (F' := T11.setTop (mkF m 273 #[.val (.int p0), .val (.int p1), .val (.int p2), .val (.int (own_c0 p0)), .val (.int (own_c1 p0)), .val (.int (own_c2 p0)), .val (.int (own_c3 p0)), .val (.ref b1), .val (.int (own_cn p2)), .val (.int (((p2.toUInt32 >>> ((3 : Int32) &&& 31).toUInt32).toInt32) &&& (3 : Int32))), .val (.ref b11_r), .val (.int (own_c0 p1)), .val (.int (1 : Int32)), .val (.int (-1 : Int32))] [(.int (3 : Int32)), (.int (own_cn p2))])) (fun t kt => ?_) ?_
            · show Steps p.tables e below (T11.setTop (mkF m 270 #[.val (.int p0), .val (.int p1), .val (.int p2), .val (.int (own_c0 p0)), .val (.int (own_c1 p0)), .val (.int (own_c2 p0)), .val (.int (own_c3 p0)), .val (.ref b1), .val (.int (own_cn p2)), .val (.int (((p2.toUInt32 >>> ((3 : Int32) &&& 31).toUInt32).toInt32) &&& (3 : Int32))), .val (.ref b11_r), .val (.int (own_c0 p1)), .val (.int (1 : Int32)), .val (.int (-1 : Int32))] [])) t
              refine XS.iload X11.here hx rfl (hb hby at_270) rfl ?_
              refine XS.iconst X11.here hx rfl (hb hby at_272) ?_
              exact kt
            by_cases hc273 : (3 : Int32) < (own_cn p2)
            · refine OGo.step (F' := T11.setTop (mkF m 276 #[.val (.int p0), .val (.int p1), .val (.int p2), .val (.int (own_c0 p0)), .val (.int (own_c1 p0)), .val (.int (own_c2 p0)), .val (.int (own_c3 p0)), .val (.ref b1), .val (.int (own_cn p2)), .val (.int (((p2.toUInt32 >>> ((3 : Int32) &&& 31).toUInt32).toInt32) &&& (3 : Int32))), .val (.ref b11_r), .val (.int (own_c0 p1)), .val (.int (1 : Int32)), .val (.int (-1 : Int32))] [])) (fun t kt => ?_) ?_
              · show Steps p.tables e below (T11.setTop (mkF m 273 #[.val (.int p0), .val (.int p1), .val (.int p2), .val (.int (own_c0 p0)), .val (.int (own_c1 p0)), .val (.int (own_c2 p0)), .val (.int (own_c3 p0)), .val (.ref b1), .val (.int (own_cn p2)), .val (.int (((p2.toUInt32 >>> ((3 : Int32) &&& 31).toUInt32).toInt32) &&& (3 : Int32))), .val (.ref b11_r), .val (.int (own_c0 p1)), .val (.int (1 : Int32)), .val (.int (-1 : Int32))] [(.int (3 : Int32)), (.int (own_cn p2))])) t
                refine XS.icmpNo X11.here hx rfl (hb hby at_273) rfl (tlt hc273).2.2.2 ?_
                exact kt
              refine OGo.step (F' := T11.setTop (mkF m 280 #[.val (.int p0), .val (.int p1), .val (.int p2), .val (.int (own_c0 p0)), .val (.int (own_c1 p0)), .val (.int (own_c2 p0)), .val (.int (own_c3 p0)), .val (.ref b1), .val (.int (own_cn p2)), .val (.int (((p2.toUInt32 >>> ((3 : Int32) &&& 31).toUInt32).toInt32) &&& (3 : Int32))), .val (.ref b11_r), .val (.int (own_c0 p1)), .val (.int (1 : Int32)), .val (.int (-1 : Int32))] [(.int (own_c0 p1)), (.int (own_c3 p0))])) (fun t kt => ?_) ?_
              · show Steps p.tables e below (T11.setTop (mkF m 276 #[.val (.int p0), .val (.int p1), .val (.int p2), .val (.int (own_c0 p0)), .val (.int (own_c1 p0)), .val (.int (own_c2 p0)), .val (.int (own_c3 p0)), .val (.ref b1), .val (.int (own_cn p2)), .val (.int (((p2.toUInt32 >>> ((3 : Int32) &&& 31).toUInt32).toInt32) &&& (3 : Int32))), .val (.ref b11_r), .val (.int (own_c0 p1)), .val (.int (1 : Int32)), .val (.int (-1 : Int32))] [])) t
                refine XS.iload X11.here hx rfl (hb hby at_276) rfl ?_
                refine XS.iload X11.here hx rfl (hb hby at_278) rfl ?_
                exact kt
              by_cases hc280 : (own_c3 p0) = (own_c0 p1)
              · refine OGo.step (F' := T11.setTop (mkF m 283 #[.val (.int p0), .val (.int p1), .val (.int p2), .val (.int (own_c0 p0)), .val (.int (own_c1 p0)), .val (.int (own_c2 p0)), .val (.int (own_c3 p0)), .val (.ref b1), .val (.int (own_cn p2)), .val (.int (((p2.toUInt32 >>> ((3 : Int32) &&& 31).toUInt32).toInt32) &&& (3 : Int32))), .val (.ref b11_r), .val (.int (own_c0 p1)), .val (.int (1 : Int32)), .val (.int (-1 : Int32))] [])) (fun t kt => ?_) ?_
                · show Steps p.tables e below (T11.setTop (mkF m 280 #[.val (.int p0), .val (.int p1), .val (.int p2), .val (.int (own_c0 p0)), .val (.int (own_c1 p0)), .val (.int (own_c2 p0)), .val (.int (own_c3 p0)), .val (.ref b1), .val (.int (own_cn p2)), .val (.int (((p2.toUInt32 >>> ((3 : Int32) &&& 31).toUInt32).toInt32) &&& (3 : Int32))), .val (.ref b11_r), .val (.int (own_c0 p1)), .val (.int (1 : Int32)), .val (.int (-1 : Int32))] [(.int (own_c0 p1)), (.int (own_c3 p0))])) t
                  refine XS.icmpNo X11.here hx rfl (hb hby at_280) rfl (teq hc280).2 ?_
                  exact kt
                refine OGo.step (F' := T11.setTop (mkF m 292 #[.val (.int p0), .val (.int p1), .val (.int p2), .val (.int (own_c0 p0)), .val (.int (own_c1 p0)), .val (.int (own_c2 p0)), .val (.int (own_c3 p0)), .val (.ref b1), .val (.int (own_cn p2)), .val (.int (((p2.toUInt32 >>> ((3 : Int32) &&& 31).toUInt32).toInt32) &&& (3 : Int32))), .val (.ref b11_r), .val (.int (own_c0 p1)), .val (.int (1 : Int32)), .val (.int (3 : Int32))] [(.ref b11_r), (.int (own_cn p2)), (.ref b1)])) (fun t kt => ?_) ?_
                · show Steps p.tables e below (T11.setTop (mkF m 283 #[.val (.int p0), .val (.int p1), .val (.int p2), .val (.int (own_c0 p0)), .val (.int (own_c1 p0)), .val (.int (own_c2 p0)), .val (.int (own_c3 p0)), .val (.ref b1), .val (.int (own_cn p2)), .val (.int (((p2.toUInt32 >>> ((3 : Int32) &&& 31).toUInt32).toInt32) &&& (3 : Int32))), .val (.ref b11_r), .val (.int (own_c0 p1)), .val (.int (1 : Int32)), .val (.int (-1 : Int32))] [])) t
                  refine XS.iconst X11.here hx rfl (hb hby at_283) ?_
                  refine XS.istore X11.here hx rfl (hb hby at_284) rfl (l' := #[.val (.int p0), .val (.int p1), .val (.int p2), .val (.int (own_c0 p0)), .val (.int (own_c1 p0)), .val (.int (own_c2 p0)), .val (.int (own_c3 p0)), .val (.ref b1), .val (.int (own_cn p2)), .val (.int (((p2.toUInt32 >>> ((3 : Int32) &&& 31).toUInt32).toInt32) &&& (3 : Int32))), .val (.ref b11_r), .val (.int (own_c0 p1)), .val (.int (1 : Int32)), .val (.int (3 : Int32))]) rfl ?_
                  refine XS.aload X11.here hx rfl (hb hby at_286) rfl rfl ?_
                  refine XS.iload X11.here hx rfl (hb hby at_288) rfl ?_
                  refine XS.aload X11.here hx rfl (hb hby at_290) rfl rfl ?_
                  exact kt
                refine OGo.callS X11 hx hZ (y := (⟨"com/example/kette/kette/JsonObject", "walk", "([Ljava/lang/String;ILjava/lang/Object;)I"⟩ : MethodName)) hown (own_wd hw 28 rfl) (own_wd hw 29 rfl) (own_wd hw 30 rfl) (own_wd hw 31 rfl) (by decide) (rm6 l Z az hw [] b1 (own_cn p2) b11_r k1 b2_r b4_r b6_r b8_r b2_t b4_t b6_t b8_t (own_by (own_ch (own_c0 p0))) (own_by (own_ch (own_c1 p0))) (own_by (own_ch (own_c2 p0))) (own_by (own_ch (own_c3 p0))) b11_t (own_by (own_ch (own_c0 p1))) w_COMPACT_STRINGS T11.heap n0 (Nat.le_trans Z0 KC11.1) (V9.keep K11 nin0) (Z10_5.keep K11) (Z10_6.keep K11 nin0) (Z10_7.keep K11 nin0) (Z10_8.keep K11 nin0) (Z10_9.keep K11) (Z10_10.keep K11 nin0) (Z10_11.keep K11 nin0) (Z10_12.keep K11 nin0) (Z10_13.keep K11) (Z10_14.keep K11 nin0) (Z10_15.keep K11 nin0) (Z10_16.keep K11 nin0) (Z10_17.keep K11) (Z10_18.keep K11 nin0) (Z10_19.keep K11 nin0) (Z10_20.keep K11 nin0) P11_0 P11_1 P11_2 P11_3 hC (own_cnt _) (own_stakeep Z10_4 K11 all0)) (W := 0) (by decide) (by decide) (g := (mkF m 292 #[.val (.int p0), .val (.int p1), .val (.int p2), .val (.int (own_c0 p0)), .val (.int (own_c1 p0)), .val (.int (own_c2 p0)), .val (.int (own_c3 p0)), .val (.ref b1), .val (.int (own_cn p2)), .val (.int (((p2.toUInt32 >>> ((3 : Int32) &&& 31).toUInt32).toInt32) &&& (3 : Int32))), .val (.ref b11_r), .val (.int (own_c0 p1)), .val (.int (1 : Int32)), .val (.int (3 : Int32))] [(.ref b11_r), (.int (own_cn p2)), (.ref b1)])) rfl (by rw [hml]; rfl) (argsL := [(.ref b1), (.int (own_cn p2)), (.ref b11_r)]) (rest := []) (lenOf pd_0_1 rfl) rfl (by show 2 * 0 + _ ≤ _; exact Nat.le_of_eq rfl) (hb hby at_292) rfl rfl (by decide) (by decide) ?_
                rintro _ T37 L37 X37 ⟨rfl, Nq37, e37⟩
                have N37 := Fr.app N11 Nq37
                show OGo _ _ _ _ _ _ _ (T37.setTop (mkF m 295 #[.val (.int p0), .val (.int p1), .val (.int p2), .val (.int (own_c0 p0)), .val (.int (own_c1 p0)), .val (.int (own_c2 p0)), .val (.int (own_c3 p0)), .val (.ref b1), .val (.int (own_cn p2)), .val (.int (((p2.toUInt32 >>> ((3 : Int32) &&& 31).toUInt32).toInt32) &&& (3 : Int32))), .val (.ref b11_r), .val (.int (own_c0 p1)), .val (.int (1 : Int32)), .val (.int (3 : Int32))] [(.int (f6 (own_cn p2) b11_r b2_r b4_r b6_r b8_r (own_by (own_ch (own_c0 p0))) (own_by (own_ch (own_c1 p0))) (own_by (own_ch (own_c2 p0))) (own_by (own_ch (own_c3 p0))) (own_by (own_ch (own_c0 p1)))))]))
                refine OGo.step (F' := T37.setTop (mkF m 305 #[.val (.int p0), .val (.int p1), .val (.int p2), .val (.int (own_c0 p0)), .val (.int (own_c1 p0)), .val (.int (own_c2 p0)), .val (.int (own_c3 p0)), .val (.ref b1), .val (.int (own_cn p2)), .val (.int (((p2.toUInt32 >>> ((3 : Int32) &&& 31).toUInt32).toInt32) &&& (3 : Int32))), .val (.ref b11_r), .val (.int (own_c0 p1)), .val (.int (1 : Int32)), .val (.int (3 : Int32))] [(.int (1 : Int32))])) (fun t kt => ?_) ?_
                · show Steps p.tables e below (T37.setTop (mkF m 295 #[.val (.int p0), .val (.int p1), .val (.int p2), .val (.int (own_c0 p0)), .val (.int (own_c1 p0)), .val (.int (own_c2 p0)), .val (.int (own_c3 p0)), .val (.ref b1), .val (.int (own_cn p2)), .val (.int (((p2.toUInt32 >>> ((3 : Int32) &&& 31).toUInt32).toInt32) &&& (3 : Int32))), .val (.ref b11_r), .val (.int (own_c0 p1)), .val (.int (1 : Int32)), .val (.int (3 : Int32))] [(.int (f6 (own_cn p2) b11_r b2_r b4_r b6_r b8_r (own_by (own_ch (own_c0 p0))) (own_by (own_ch (own_c1 p0))) (own_by (own_ch (own_c2 p0))) (own_by (own_ch (own_c3 p0))) (own_by (own_ch (own_c0 p1)))))])) t
                  refine XS.iload X37.here hx rfl (hb hby at_295) rfl ?_
                  refine XS.icmpNo X37.here hx rfl (hb hby at_297) rfl (teq (by rw [own_fin _ (own_c0 p0) (own_c1 p0) (own_c2 p0) (own_c3 p0) (own_c0 p1) _ _ _ _ _ _ _ _ _ _ (own_e _ _ _ _ (own_r0 _) (own_r0 _) (fun q => absurd q (Nat.ne_of_lt (Nat.lt_of_lt_of_le Z10_5.lt szo_b11_r)))) (own_e _ _ _ _ (own_r1 _) (own_r0 _) (fun q => absurd q (Nat.ne_of_lt (Nat.lt_of_lt_of_le Z10_9.lt szo_b11_r)))) (own_e _ _ _ _ (own_r2 _) (own_r0 _) (fun q => absurd q (Nat.ne_of_lt (Nat.lt_of_lt_of_le Z10_13.lt szo_b11_r)))) (own_e _ _ _ _ (own_r3 _) (own_r0 _) (fun q => absurd q (Nat.ne_of_lt (Nat.lt_of_lt_of_le Z10_17.lt szo_b11_r)))) (own_cnt _), own_exp, if_neg (fun q => hc217 q.1), if_neg (fun q => hc235 q.1), if_neg (fun q => hc261 q.2), if_pos ⟨hc273, hc280⟩])).2 ?_
                  refine XS.iconst X37.here hx rfl (hb hby at_300) ?_
                  refine XS.goto X37.here hx rfl (pc0 := 301) (pc' := 305) rfl (hb hby at_301) (by decide) (by decide) ?_
                  exact kt
                refine OGo.retZ X37 hx hlk (t := .boolean) (z' := (1 : Int32)) hret (by simp) (hb hby at_305) rfl ?_ (by decide) (by decide)
                show Q0 Z p0 p1 p2 w_high w_cache w_COMPACT_STRINGS h0 n0 _ T37.heap _
                rw [e37]
                exact ⟨rfl, N37, KC11⟩
              · refine OGo.step (F' := T11.setTop (mkF m 286 #[.val (.int p0), .val (.int p1), .val (.int p2), .val (.int (own_c0 p0)), .val (.int (own_c1 p0)), .val (.int (own_c2 p0)), .val (.int (own_c3 p0)), .val (.ref b1), .val (.int (own_cn p2)), .val (.int (((p2.toUInt32 >>> ((3 : Int32) &&& 31).toUInt32).toInt32) &&& (3 : Int32))), .val (.ref b11_r), .val (.int (own_c0 p1)), .val (.int (1 : Int32)), .val (.int (-1 : Int32))] [])) (fun t kt => ?_) ?_
                · show Steps p.tables e below (T11.setTop (mkF m 280 #[.val (.int p0), .val (.int p1), .val (.int p2), .val (.int (own_c0 p0)), .val (.int (own_c1 p0)), .val (.int (own_c2 p0)), .val (.int (own_c3 p0)), .val (.ref b1), .val (.int (own_cn p2)), .val (.int (((p2.toUInt32 >>> ((3 : Int32) &&& 31).toUInt32).toInt32) &&& (3 : Int32))), .val (.ref b11_r), .val (.int (own_c0 p1)), .val (.int (1 : Int32)), .val (.int (-1 : Int32))] [(.int (own_c0 p1)), (.int (own_c3 p0))])) t
                  refine XS.icmpYes X11.here hx rfl (pc0 := 280) (pc' := 286) rfl (hb hby at_280) rfl (feq hc280).2 (by decide) (by decide) ?_
                  exact kt
                refine OGo.step (F' := T11.setTop (mkF m 292 #[.val (.int p0), .val (.int p1), .val (.int p2), .val (.int (own_c0 p0)), .val (.int (own_c1 p0)), .val (.int (own_c2 p0)), .val (.int (own_c3 p0)), .val (.ref b1), .val (.int (own_cn p2)), .val (.int (((p2.toUInt32 >>> ((3 : Int32) &&& 31).toUInt32).toInt32) &&& (3 : Int32))), .val (.ref b11_r), .val (.int (own_c0 p1)), .val (.int (1 : Int32)), .val (.int (-1 : Int32))] [(.ref b11_r), (.int (own_cn p2)), (.ref b1)])) (fun t kt => ?_) ?_
                · show Steps p.tables e below (T11.setTop (mkF m 286 #[.val (.int p0), .val (.int p1), .val (.int p2), .val (.int (own_c0 p0)), .val (.int (own_c1 p0)), .val (.int (own_c2 p0)), .val (.int (own_c3 p0)), .val (.ref b1), .val (.int (own_cn p2)), .val (.int (((p2.toUInt32 >>> ((3 : Int32) &&& 31).toUInt32).toInt32) &&& (3 : Int32))), .val (.ref b11_r), .val (.int (own_c0 p1)), .val (.int (1 : Int32)), .val (.int (-1 : Int32))] [])) t
                  refine XS.aload X11.here hx rfl (hb hby at_286) rfl rfl ?_
                  refine XS.iload X11.here hx rfl (hb hby at_288) rfl ?_
                  refine XS.aload X11.here hx rfl (hb hby at_290) rfl rfl ?_
                  exact kt
                refine OGo.callS X11 hx hZ (y := (⟨"com/example/kette/kette/JsonObject", "walk", "([Ljava/lang/String;ILjava/lang/Object;)I"⟩ : MethodName)) hown (own_wd hw 28 rfl) (own_wd hw 29 rfl) (own_wd hw 30 rfl) (own_wd hw 31 rfl) (by decide) (rm6 l Z az hw [] b1 (own_cn p2) b11_r k1 b2_r b4_r b6_r b8_r b2_t b4_t b6_t b8_t (own_by (own_ch (own_c0 p0))) (own_by (own_ch (own_c1 p0))) (own_by (own_ch (own_c2 p0))) (own_by (own_ch (own_c3 p0))) b11_t (own_by (own_ch (own_c0 p1))) w_COMPACT_STRINGS T11.heap n0 (Nat.le_trans Z0 KC11.1) (V9.keep K11 nin0) (Z10_5.keep K11) (Z10_6.keep K11 nin0) (Z10_7.keep K11 nin0) (Z10_8.keep K11 nin0) (Z10_9.keep K11) (Z10_10.keep K11 nin0) (Z10_11.keep K11 nin0) (Z10_12.keep K11 nin0) (Z10_13.keep K11) (Z10_14.keep K11 nin0) (Z10_15.keep K11 nin0) (Z10_16.keep K11 nin0) (Z10_17.keep K11) (Z10_18.keep K11 nin0) (Z10_19.keep K11 nin0) (Z10_20.keep K11 nin0) P11_0 P11_1 P11_2 P11_3 hC (own_cnt _) (own_stakeep Z10_4 K11 all0)) (W := 0) (by decide) (by decide) (g := (mkF m 292 #[.val (.int p0), .val (.int p1), .val (.int p2), .val (.int (own_c0 p0)), .val (.int (own_c1 p0)), .val (.int (own_c2 p0)), .val (.int (own_c3 p0)), .val (.ref b1), .val (.int (own_cn p2)), .val (.int (((p2.toUInt32 >>> ((3 : Int32) &&& 31).toUInt32).toInt32) &&& (3 : Int32))), .val (.ref b11_r), .val (.int (own_c0 p1)), .val (.int (1 : Int32)), .val (.int (-1 : Int32))] [(.ref b11_r), (.int (own_cn p2)), (.ref b1)])) rfl (by rw [hml]; rfl) (argsL := [(.ref b1), (.int (own_cn p2)), (.ref b11_r)]) (rest := []) (lenOf pd_0_1 rfl) rfl (by show 2 * 0 + _ ≤ _; exact Nat.le_of_eq rfl) (hb hby at_292) rfl rfl (by decide) (by decide) ?_
                rintro _ T38 L38 X38 ⟨rfl, Nq38, e38⟩
                have N38 := Fr.app N11 Nq38
                show OGo _ _ _ _ _ _ _ (T38.setTop (mkF m 295 #[.val (.int p0), .val (.int p1), .val (.int p2), .val (.int (own_c0 p0)), .val (.int (own_c1 p0)), .val (.int (own_c2 p0)), .val (.int (own_c3 p0)), .val (.ref b1), .val (.int (own_cn p2)), .val (.int (((p2.toUInt32 >>> ((3 : Int32) &&& 31).toUInt32).toInt32) &&& (3 : Int32))), .val (.ref b11_r), .val (.int (own_c0 p1)), .val (.int (1 : Int32)), .val (.int (-1 : Int32))] [(.int (f6 (own_cn p2) b11_r b2_r b4_r b6_r b8_r (own_by (own_ch (own_c0 p0))) (own_by (own_ch (own_c1 p0))) (own_by (own_ch (own_c2 p0))) (own_by (own_ch (own_c3 p0))) (own_by (own_ch (own_c0 p1)))))]))
                refine OGo.step (F' := T38.setTop (mkF m 305 #[.val (.int p0), .val (.int p1), .val (.int p2), .val (.int (own_c0 p0)), .val (.int (own_c1 p0)), .val (.int (own_c2 p0)), .val (.int (own_c3 p0)), .val (.ref b1), .val (.int (own_cn p2)), .val (.int (((p2.toUInt32 >>> ((3 : Int32) &&& 31).toUInt32).toInt32) &&& (3 : Int32))), .val (.ref b11_r), .val (.int (own_c0 p1)), .val (.int (1 : Int32)), .val (.int (-1 : Int32))] [(.int (1 : Int32))])) (fun t kt => ?_) ?_
                · show Steps p.tables e below (T38.setTop (mkF m 295 #[.val (.int p0), .val (.int p1), .val (.int p2), .val (.int (own_c0 p0)), .val (.int (own_c1 p0)), .val (.int (own_c2 p0)), .val (.int (own_c3 p0)), .val (.ref b1), .val (.int (own_cn p2)), .val (.int (((p2.toUInt32 >>> ((3 : Int32) &&& 31).toUInt32).toInt32) &&& (3 : Int32))), .val (.ref b11_r), .val (.int (own_c0 p1)), .val (.int (1 : Int32)), .val (.int (-1 : Int32))] [(.int (f6 (own_cn p2) b11_r b2_r b4_r b6_r b8_r (own_by (own_ch (own_c0 p0))) (own_by (own_ch (own_c1 p0))) (own_by (own_ch (own_c2 p0))) (own_by (own_ch (own_c3 p0))) (own_by (own_ch (own_c0 p1)))))])) t
                  refine XS.iload X38.here hx rfl (hb hby at_295) rfl ?_
                  refine XS.icmpNo X38.here hx rfl (hb hby at_297) rfl (teq (by rw [own_fin _ (own_c0 p0) (own_c1 p0) (own_c2 p0) (own_c3 p0) (own_c0 p1) _ _ _ _ _ _ _ _ _ _ (own_e _ _ _ _ (own_r0 _) (own_r0 _) (fun q => absurd q (Nat.ne_of_lt (Nat.lt_of_lt_of_le Z10_5.lt szo_b11_r)))) (own_e _ _ _ _ (own_r1 _) (own_r0 _) (fun q => absurd q (Nat.ne_of_lt (Nat.lt_of_lt_of_le Z10_9.lt szo_b11_r)))) (own_e _ _ _ _ (own_r2 _) (own_r0 _) (fun q => absurd q (Nat.ne_of_lt (Nat.lt_of_lt_of_le Z10_13.lt szo_b11_r)))) (own_e _ _ _ _ (own_r3 _) (own_r0 _) (fun q => absurd q (Nat.ne_of_lt (Nat.lt_of_lt_of_le Z10_17.lt szo_b11_r)))) (own_cnt _), own_exp, if_neg (fun q => hc217 q.1), if_neg (fun q => hc235 q.1), if_neg (fun q => hc261 q.2), if_neg (fun q => hc280 q.2)])).2 ?_
                  refine XS.iconst X38.here hx rfl (hb hby at_300) ?_
                  refine XS.goto X38.here hx rfl (pc0 := 301) (pc' := 305) rfl (hb hby at_301) (by decide) (by decide) ?_
                  exact kt
                refine OGo.retZ X38 hx hlk (t := .boolean) (z' := (1 : Int32)) hret (by simp) (hb hby at_305) rfl ?_ (by decide) (by decide)
                show Q0 Z p0 p1 p2 w_high w_cache w_COMPACT_STRINGS h0 n0 _ T38.heap _
                rw [e38]
                exact ⟨rfl, N38, KC11⟩
            · refine OGo.step (F' := T11.setTop (mkF m 286 #[.val (.int p0), .val (.int p1), .val (.int p2), .val (.int (own_c0 p0)), .val (.int (own_c1 p0)), .val (.int (own_c2 p0)), .val (.int (own_c3 p0)), .val (.ref b1), .val (.int (own_cn p2)), .val (.int (((p2.toUInt32 >>> ((3 : Int32) &&& 31).toUInt32).toInt32) &&& (3 : Int32))), .val (.ref b11_r), .val (.int (own_c0 p1)), .val (.int (1 : Int32)), .val (.int (-1 : Int32))] [])) (fun t kt => ?_) ?_
              · show Steps p.tables e below (T11.setTop (mkF m 273 #[.val (.int p0), .val (.int p1), .val (.int p2), .val (.int (own_c0 p0)), .val (.int (own_c1 p0)), .val (.int (own_c2 p0)), .val (.int (own_c3 p0)), .val (.ref b1), .val (.int (own_cn p2)), .val (.int (((p2.toUInt32 >>> ((3 : Int32) &&& 31).toUInt32).toInt32) &&& (3 : Int32))), .val (.ref b11_r), .val (.int (own_c0 p1)), .val (.int (1 : Int32)), .val (.int (-1 : Int32))] [(.int (3 : Int32)), (.int (own_cn p2))])) t
                refine XS.icmpYes X11.here hx rfl (pc0 := 273) (pc' := 286) rfl (hb hby at_273) rfl (flt hc273).2.2.2 (by decide) (by decide) ?_
                exact kt
              refine OGo.step (F' := T11.setTop (mkF m 292 #[.val (.int p0), .val (.int p1), .val (.int p2), .val (.int (own_c0 p0)), .val (.int (own_c1 p0)), .val (.int (own_c2 p0)), .val (.int (own_c3 p0)), .val (.ref b1), .val (.int (own_cn p2)), .val (.int (((p2.toUInt32 >>> ((3 : Int32) &&& 31).toUInt32).toInt32) &&& (3 : Int32))), .val (.ref b11_r), .val (.int (own_c0 p1)), .val (.int (1 : Int32)), .val (.int (-1 : Int32))] [(.ref b11_r), (.int (own_cn p2)), (.ref b1)])) (fun t kt => ?_) ?_
              · show Steps p.tables e below (T11.setTop (mkF m 286 #[.val (.int p0), .val (.int p1), .val (.int p2), .val (.int (own_c0 p0)), .val (.int (own_c1 p0)), .val (.int (own_c2 p0)), .val (.int (own_c3 p0)), .val (.ref b1), .val (.int (own_cn p2)), .val (.int (((p2.toUInt32 >>> ((3 : Int32) &&& 31).toUInt32).toInt32) &&& (3 : Int32))), .val (.ref b11_r), .val (.int (own_c0 p1)), .val (.int (1 : Int32)), .val (.int (-1 : Int32))] [])) t
                refine XS.aload X11.here hx rfl (hb hby at_286) rfl rfl ?_
                refine XS.iload X11.here hx rfl (hb hby at_288) rfl ?_
                refine XS.aload X11.here hx rfl (hb hby at_290) rfl rfl ?_
                exact kt
              refine OGo.callS X11 hx hZ (y := (⟨"com/example/kette/kette/JsonObject", "walk", "([Ljava/lang/String;ILjava/lang/Object;)I"⟩ : MethodName)) hown (own_wd hw 28 rfl) (own_wd hw 29 rfl) (own_wd hw 30 rfl) (own_wd hw 31 rfl) (by decide) (rm6 l Z az hw [] b1 (own_cn p2) b11_r k1 b2_r b4_r b6_r b8_r b2_t b4_t b6_t b8_t (own_by (own_ch (own_c0 p0))) (own_by (own_ch (own_c1 p0))) (own_by (own_ch (own_c2 p0))) (own_by (own_ch (own_c3 p0))) b11_t (own_by (own_ch (own_c0 p1))) w_COMPACT_STRINGS T11.heap n0 (Nat.le_trans Z0 KC11.1) (V9.keep K11 nin0) (Z10_5.keep K11) (Z10_6.keep K11 nin0) (Z10_7.keep K11 nin0) (Z10_8.keep K11 nin0) (Z10_9.keep K11) (Z10_10.keep K11 nin0) (Z10_11.keep K11 nin0) (Z10_12.keep K11 nin0) (Z10_13.keep K11) (Z10_14.keep K11 nin0) (Z10_15.keep K11 nin0) (Z10_16.keep K11 nin0) (Z10_17.keep K11) (Z10_18.keep K11 nin0) (Z10_19.keep K11 nin0) (Z10_20.keep K11 nin0) P11_0 P11_1 P11_2 P11_3 hC (own_cnt _) (own_stakeep Z10_4 K11 all0)) (W := 0) (by decide) (by decide) (g := (mkF m 292 #[.val (.int p0), .val (.int p1), .val (.int p2), .val (.int (own_c0 p0)), .val (.int (own_c1 p0)), .val (.int (own_c2 p0)), .val (.int (own_c3 p0)), .val (.ref b1), .val (.int (own_cn p2)), .val (.int (((p2.toUInt32 >>> ((3 : Int32) &&& 31).toUInt32).toInt32) &&& (3 : Int32))), .val (.ref b11_r), .val (.int (own_c0 p1)), .val (.int (1 : Int32)), .val (.int (-1 : Int32))] [(.ref b11_r), (.int (own_cn p2)), (.ref b1)])) rfl (by rw [hml]; rfl) (argsL := [(.ref b1), (.int (own_cn p2)), (.ref b11_r)]) (rest := []) (lenOf pd_0_1 rfl) rfl (by show 2 * 0 + _ ≤ _; exact Nat.le_of_eq rfl) (hb hby at_292) rfl rfl (by decide) (by decide) ?_
              rintro _ T39 L39 X39 ⟨rfl, Nq39, e39⟩
              have N39 := Fr.app N11 Nq39
              show OGo _ _ _ _ _ _ _ (T39.setTop (mkF m 295 #[.val (.int p0), .val (.int p1), .val (.int p2), .val (.int (own_c0 p0)), .val (.int (own_c1 p0)), .val (.int (own_c2 p0)), .val (.int (own_c3 p0)), .val (.ref b1), .val (.int (own_cn p2)), .val (.int (((p2.toUInt32 >>> ((3 : Int32) &&& 31).toUInt32).toInt32) &&& (3 : Int32))), .val (.ref b11_r), .val (.int (own_c0 p1)), .val (.int (1 : Int32)), .val (.int (-1 : Int32))] [(.int (f6 (own_cn p2) b11_r b2_r b4_r b6_r b8_r (own_by (own_ch (own_c0 p0))) (own_by (own_ch (own_c1 p0))) (own_by (own_ch (own_c2 p0))) (own_by (own_ch (own_c3 p0))) (own_by (own_ch (own_c0 p1)))))]))
              refine OGo.step (F' := T39.setTop (mkF m 305 #[.val (.int p0), .val (.int p1), .val (.int p2), .val (.int (own_c0 p0)), .val (.int (own_c1 p0)), .val (.int (own_c2 p0)), .val (.int (own_c3 p0)), .val (.ref b1), .val (.int (own_cn p2)), .val (.int (((p2.toUInt32 >>> ((3 : Int32) &&& 31).toUInt32).toInt32) &&& (3 : Int32))), .val (.ref b11_r), .val (.int (own_c0 p1)), .val (.int (1 : Int32)), .val (.int (-1 : Int32))] [(.int (1 : Int32))])) (fun t kt => ?_) ?_
              · show Steps p.tables e below (T39.setTop (mkF m 295 #[.val (.int p0), .val (.int p1), .val (.int p2), .val (.int (own_c0 p0)), .val (.int (own_c1 p0)), .val (.int (own_c2 p0)), .val (.int (own_c3 p0)), .val (.ref b1), .val (.int (own_cn p2)), .val (.int (((p2.toUInt32 >>> ((3 : Int32) &&& 31).toUInt32).toInt32) &&& (3 : Int32))), .val (.ref b11_r), .val (.int (own_c0 p1)), .val (.int (1 : Int32)), .val (.int (-1 : Int32))] [(.int (f6 (own_cn p2) b11_r b2_r b4_r b6_r b8_r (own_by (own_ch (own_c0 p0))) (own_by (own_ch (own_c1 p0))) (own_by (own_ch (own_c2 p0))) (own_by (own_ch (own_c3 p0))) (own_by (own_ch (own_c0 p1)))))])) t
                refine XS.iload X39.here hx rfl (hb hby at_295) rfl ?_
                refine XS.icmpNo X39.here hx rfl (hb hby at_297) rfl (teq (by rw [own_fin _ (own_c0 p0) (own_c1 p0) (own_c2 p0) (own_c3 p0) (own_c0 p1) _ _ _ _ _ _ _ _ _ _ (own_e _ _ _ _ (own_r0 _) (own_r0 _) (fun q => absurd q (Nat.ne_of_lt (Nat.lt_of_lt_of_le Z10_5.lt szo_b11_r)))) (own_e _ _ _ _ (own_r1 _) (own_r0 _) (fun q => absurd q (Nat.ne_of_lt (Nat.lt_of_lt_of_le Z10_9.lt szo_b11_r)))) (own_e _ _ _ _ (own_r2 _) (own_r0 _) (fun q => absurd q (Nat.ne_of_lt (Nat.lt_of_lt_of_le Z10_13.lt szo_b11_r)))) (own_e _ _ _ _ (own_r3 _) (own_r0 _) (fun q => absurd q (Nat.ne_of_lt (Nat.lt_of_lt_of_le Z10_17.lt szo_b11_r)))) (own_cnt _), own_exp, if_neg (fun q => hc217 q.1), if_neg (fun q => hc235 q.1), if_neg (fun q => hc261 q.2), if_neg (fun q => hc273 q.1)])).2 ?_
                refine XS.iconst X39.here hx rfl (hb hby at_300) ?_
                refine XS.goto X39.here hx rfl (pc0 := 301) (pc' := 305) rfl (hb hby at_301) (by decide) (by decide) ?_
                exact kt
              refine OGo.retZ X39 hx hlk (t := .boolean) (z' := (1 : Int32)) hret (by simp) (hb hby at_305) rfl ?_ (by decide) (by decide)
              show Q0 Z p0 p1 p2 w_high w_cache w_COMPACT_STRINGS h0 n0 _ T39.heap _
              rw [e39]
              exact ⟨rfl, N39, KC11⟩
        · refine OGo.step (F' := T11.setTop (mkF m 270 #[.val (.int p0), .val (.int p1), .val (.int p2), .val (.int (own_c0 p0)), .val (.int (own_c1 p0)), .val (.int (own_c2 p0)), .val (.int (own_c3 p0)), .val (.ref b1), .val (.int (own_cn p2)), .val (.int (((p2.toUInt32 >>> ((3 : Int32) &&& 31).toUInt32).toInt32) &&& (3 : Int32))), .val (.ref b11_r), .val (.int (own_c0 p1)), .val (.int (1 : Int32)), .val (.int (-1 : Int32))] [])) (fun t kt => ?_) ?_
          · show Steps p.tables e below (T11.setTop (mkF m 254 #[.val (.int p0), .val (.int p1), .val (.int p2), .val (.int (own_c0 p0)), .val (.int (own_c1 p0)), .val (.int (own_c2 p0)), .val (.int (own_c3 p0)), .val (.ref b1), .val (.int (own_cn p2)), .val (.int (((p2.toUInt32 >>> ((3 : Int32) &&& 31).toUInt32).toInt32) &&& (3 : Int32))), .val (.ref b11_r), .val (.int (own_c0 p1)), .val (.int (1 : Int32)), .val (.int (-1 : Int32))] [(.int (2 : Int32)), (.int (own_cn p2))])) t
            refine XS.icmpYes X11.here hx rfl (pc0 := 254) (pc' := 270) rfl (hb hby at_254) rfl (flt hc254).2.2.2 (by decide) (by decide) ?_
            exact kt
          refine OGo.step (F' := T11.setTop (mkF m 273 #[.val (.int p0), .val (.int p1), .val (.int p2), .val (.int (own_c0 p0)), .val (.int (own_c1 p0)), .val (.int (own_c2 p0)), .val (.int (own_c3 p0)), .val (.ref b1), .val (.int (own_cn p2)), .val (.int (((p2.toUInt32 >>> ((3 : Int32) &&& 31).toUInt32).toInt32) &&& (3 : Int32))), .val (.ref b11_r), .val (.int (own_c0 p1)), .val (.int (1 : Int32)), .val (.int (-1 : Int32))] [(.int (3 : Int32)), (.int (own_cn p2))])) (fun t kt => ?_) ?_
          · show Steps p.tables e below (T11.setTop (mkF m 270 #[.val (.int p0), .val (.int p1), .val (.int p2), .val (.int (own_c0 p0)), .val (.int (own_c1 p0)), .val (.int (own_c2 p0)), .val (.int (own_c3 p0)), .val (.ref b1), .val (.int (own_cn p2)), .val (.int (((p2.toUInt32 >>> ((3 : Int32) &&& 31).toUInt32).toInt32) &&& (3 : Int32))), .val (.ref b11_r), .val (.int (own_c0 p1)), .val (.int (1 : Int32)), .val (.int (-1 : Int32))] [])) t
            refine XS.iload X11.here hx rfl (hb hby at_270) rfl ?_
            refine XS.iconst X11.here hx rfl (hb hby at_272) ?_
            exact kt
          by_cases hc273 : (3 : Int32) < (own_cn p2)
          · refine OGo.step (F' := T11.setTop (mkF m 276 #[.val (.int p0), .val (.int p1), .val (.int p2), .val (.int (own_c0 p0)), .val (.int (own_c1 p0)), .val (.int (own_c2 p0)), .val (.int (own_c3 p0)), .val (.ref b1), .val (.int (own_cn p2)), .val (.int (((p2.toUInt32 >>> ((3 : Int32) &&& 31).toUInt32).toInt32) &&& (3 : Int32))), .val (.ref b11_r), .val (.int (own_c0 p1)), .val (.int (1 : Int32)), .val (.int (-1 : Int32))] [])) (fun t kt => ?_) ?_
            · show Steps p.tables e below (T11.setTop (mkF m 273 #[.val (.int p0), .val (.int p1), .val (.int p2), .val (.int (own_c0 p0)), .val (.int (own_c1 p0)), .val (.int (own_c2 p0)), .val (.int (own_c3 p0)), .val (.ref b1), .val (.int (own_cn p2)), .val (.int (((p2.toUInt32 >>> ((3 : Int32) &&& 31).toUInt32).toInt32) &&& (3 : Int32))), .val (.ref b11_r), .val (.int (own_c0 p1)), .val (.int (1 : Int32)), .val (.int (-1 : Int32))] [(.int (3 : Int32)), (.int (own_cn p2))])) t
              refine XS.icmpNo X11.here hx rfl (hb hby at_273) rfl (tlt hc273).2.2.2 ?_
              exact kt
            refine OGo.step (F' := T11.setTop (mkF m 280 #[.val (.int p0), .val (.int p1), .val (.int p2), .val (.int (own_c0 p0)), .val (.int (own_c1 p0)), .val (.int (own_c2 p0)), .val (.int (own_c3 p0)), .val (.ref b1), .val (.int (own_cn p2)), .val (.int (((p2.toUInt32 >>> ((3 : Int32) &&& 31).toUInt32).toInt32) &&& (3 : Int32))), .val (.ref b11_r), .val (.int (own_c0 p1)), .val (.int (1 : Int32)), .val (.int (-1 : Int32))] [(.int (own_c0 p1)), (.int (own_c3 p0))])) (fun t kt => ?_) ?_
            · show Steps p.tables e below (T11.setTop (mkF m 276 #[.val (.int p0), .val (.int p1), .val (.int p2), .val (.int (own_c0 p0)), .val (.int (own_c1 p0)), .val (.int (own_c2 p0)), .val (.int (own_c3 p0)), .val (.ref b1), .val (.int (own_cn p2)), .val (.int (((p2.toUInt32 >>> ((3 : Int32) &&& 31).toUInt32).toInt32) &&& (3 : Int32))), .val (.ref b11_r), .val (.int (own_c0 p1)), .val (.int (1 : Int32)), .val (.int (-1 : Int32))] [])) t
              refine XS.iload X11.here hx rfl (hb hby at_276) rfl ?_
              refine XS.iload X11.here hx rfl (hb hby at_278) rfl ?_
              exact kt
            by_cases hc280 : (own_c3 p0) = (own_c0 p1)
            · refine OGo.step (F' := T11.setTop (mkF m 283 #[.val (.int p0), .val (.int p1), .val (.int p2), .val (.int (own_c0 p0)), .val (.int (own_c1 p0)), .val (.int (own_c2 p0)), .val (.int (own_c3 p0)), .val (.ref b1), .val (.int (own_cn p2)), .val (.int (((p2.toUInt32 >>> ((3 : Int32) &&& 31).toUInt32).toInt32) &&& (3 : Int32))), .val (.ref b11_r), .val (.int (own_c0 p1)), .val (.int (1 : Int32)), .val (.int (-1 : Int32))] [])) (fun t kt => ?_) ?_
              · show Steps p.tables e below (T11.setTop (mkF m 280 #[.val (.int p0), .val (.int p1), .val (.int p2), .val (.int (own_c0 p0)), .val (.int (own_c1 p0)), .val (.int (own_c2 p0)), .val (.int (own_c3 p0)), .val (.ref b1), .val (.int (own_cn p2)), .val (.int (((p2.toUInt32 >>> ((3 : Int32) &&& 31).toUInt32).toInt32) &&& (3 : Int32))), .val (.ref b11_r), .val (.int (own_c0 p1)), .val (.int (1 : Int32)), .val (.int (-1 : Int32))] [(.int (own_c0 p1)), (.int (own_c3 p0))])) t
                refine XS.icmpNo X11.here hx rfl (hb hby at_280) rfl (teq hc280).2 ?_
                exact kt
              refine OGo.step (F' := T11.setTop (mkF m 292 #[.val (.int p0), .val (.int p1), .val (.int p2), .val (.int (own_c0 p0)), .val (.int (own_c1 p0)), .val (.int (own_c2 p0)), .val (.int (own_c3 p0)), .val (.ref b1), .val (.int (own_cn p2)), .val (.int (((p2.toUInt32 >>> ((3 : Int32) &&& 31).toUInt32).toInt32) &&& (3 : Int32))), .val (.ref b11_r), .val (.int (own_c0 p1)), .val (.int (1 : Int32)), .val (.int (3 : Int32))] [(.ref b11_r), (.int (own_cn p2)), (.ref b1)])) (fun t kt => ?_) ?_
              · show Steps p.tables e below (T11.setTop (mkF m 283 #[.val (.int p0), .val (.int p1), .val (.int p2), .val (.int (own_c0 p0)), .val (.int (own_c1 p0)), .val (.int (own_c2 p0)), .val (.int (own_c3 p0)), .val (.ref b1), .val (.int (own_cn p2)), .val (.int (((p2.toUInt32 >>> ((3 : Int32) &&& 31).toUInt32).toInt32) &&& (3 : Int32))), .val (.ref b11_r), .val (.int (own_c0 p1)), .val (.int (1 : Int32)), .val (.int (-1 : Int32))] [])) t
                refine XS.iconst X11.here hx rfl (hb hby at_283) ?_
                refine XS.istore X11.here hx rfl (hb hby at_284) rfl (l' := #[.val (.int p0), .val (.int p1), .val (.int p2), .val (.int (own_c0 p0)), .val (.int (own_c1 p0)), .val (.int (own_c2 p0)), .val (.int (own_c3 p0)), .val (.ref b1), .val (.int (own_cn p2)), .val (.int (((p2.toUInt32 >>> ((3 : Int32) &&& 31).toUInt32).toInt32) &&& (3 : Int32))), .val (.ref b11_r), .val (.int (own_c0 p1)), .val (.int (1 : Int32)), .val (.int (3 : Int32))]) rfl ?_
                refine XS.aload X11.here hx rfl (hb hby at_286) rfl rfl ?_
                refine XS.iload X11.here hx rfl (hb hby at_288) rfl ?_
                refine XS.aload X11.here hx rfl (hb hby at_290) rfl rfl ?_
                exact kt
              refine OGo.callS X11 hx hZ (y := (⟨"com/example/kette/kette/JsonObject", "walk", "([Ljava/lang/String;ILjava/lang/Object;)I"⟩ : MethodName)) hown (own_wd hw 28 rfl) (own_wd hw 29 rfl) (own_wd hw 30 rfl) (own_wd hw 31 rfl) (by decide) (rm6 l Z az hw [] b1 (own_cn p2) b11_r k1 b2_r b4_r b6_r b8_r b2_t b4_t b6_t b8_t (own_by (own_ch (own_c0 p0))) (own_by (own_ch (own_c1 p0))) (own_by (own_ch (own_c2 p0))) (own_by (own_ch (own_c3 p0))) b11_t (own_by (own_ch (own_c0 p1))) w_COMPACT_STRINGS T11.heap n0 (Nat.le_trans Z0 KC11.1) (V9.keep K11 nin0) (Z10_5.keep K11) (Z10_6.keep K11 nin0) (Z10_7.keep K11 nin0) (Z10_8.keep K11 nin0) (Z10_9.keep K11) (Z10_10.keep K11 nin0) (Z10_11.keep K11 nin0) (Z10_12.keep K11 nin0) (Z10_13.keep K11) (Z10_14.keep K11 nin0) (Z10_15.keep K11 nin0) (Z10_16.keep K11 nin0) (Z10_17.keep K11) (Z10_18.keep K11 nin0) (Z10_19.keep K11 nin0) (Z10_20.keep K11 nin0) P11_0 P11_1 P11_2 P11_3 hC (own_cnt _) (own_stakeep Z10_4 K11 all0)) (W := 0) (by decide) (by decide) (g := (mkF m 292 #[.val (.int p0), .val (.int p1), .val (.int p2), .val (.int (own_c0 p0)), .val (.int (own_c1 p0)), .val (.int (own_c2 p0)), .val (.int (own_c3 p0)), .val (.ref b1), .val (.int (own_cn p2)), .val (.int (((p2.toUInt32 >>> ((3 : Int32) &&& 31).toUInt32).toInt32) &&& (3 : Int32))), .val (.ref b11_r), .val (.int (own_c0 p1)), .val (.int (1 : Int32)), .val (.int (3 : Int32))] [(.ref b11_r), (.int (own_cn p2)), (.ref b1)])) rfl (by rw [hml]; rfl) (argsL := [(.ref b1), (.int (own_cn p2)), (.ref b11_r)]) (rest := []) (lenOf pd_0_1 rfl) rfl (by show 2 * 0 + _ ≤ _; exact Nat.le_of_eq rfl) (hb hby at_292) rfl rfl (by decide) (by decide) ?_
              rintro _ T40 L40 X40 ⟨rfl, Nq40, e40⟩
              have N40 := Fr.app N11 Nq40
              show OGo _ _ _ _ _ _ _ (T40.setTop (mkF m 295 #[.val (.int p0), .val (.int p1), .val (.int p2), .val (.int (own_c0 p0)), .val (.int (own_c1 p0)), .val (.int (own_c2 p0)), .val (.int (own_c3 p0)), .val (.ref b1), .val (.int (own_cn p2)), .val (.int (((p2.toUInt32 >>> ((3 : Int32) &&& 31).toUInt32).toInt32) &&& (3 : Int32))), .val (.ref b11_r), .val (.int (own_c0 p1)), .val (.int (1 : Int32)), .val (.int (3 : Int32))] [(.int (f6 (own_cn p2) b11_r b2_r b4_r b6_r b8_r (own_by (own_ch (own_c0 p0))) (own_by (own_ch (own_c1 p0))) (own_by (own_ch (own_c2 p0))) (own_by (own_ch (own_c3 p0))) (own_by (own_ch (own_c0 p1)))))]))
              refine OGo.step (F' := T40.setTop (mkF m 305 #[.val (.int p0), .val (.int p1), .val (.int p2), .val (.int (own_c0 p0)), .val (.int (own_c1 p0)), .val (.int (own_c2 p0)), .val (.int (own_c3 p0)), .val (.ref b1), .val (.int (own_cn p2)), .val (.int (((p2.toUInt32 >>> ((3 : Int32) &&& 31).toUInt32).toInt32) &&& (3 : Int32))), .val (.ref b11_r), .val (.int (own_c0 p1)), .val (.int (1 : Int32)), .val (.int (3 : Int32))] [(.int (1 : Int32))])) (fun t kt => ?_) ?_
              · show Steps p.tables e below (T40.setTop (mkF m 295 #[.val (.int p0), .val (.int p1), .val (.int p2), .val (.int (own_c0 p0)), .val (.int (own_c1 p0)), .val (.int (own_c2 p0)), .val (.int (own_c3 p0)), .val (.ref b1), .val (.int (own_cn p2)), .val (.int (((p2.toUInt32 >>> ((3 : Int32) &&& 31).toUInt32).toInt32) &&& (3 : Int32))), .val (.ref b11_r), .val (.int (own_c0 p1)), .val (.int (1 : Int32)), .val (.int (3 : Int32))] [(.int (f6 (own_cn p2) b11_r b2_r b4_r b6_r b8_r (own_by (own_ch (own_c0 p0))) (own_by (own_ch (own_c1 p0))) (own_by (own_ch (own_c2 p0))) (own_by (own_ch (own_c3 p0))) (own_by (own_ch (own_c0 p1)))))])) t
                refine XS.iload X40.here hx rfl (hb hby at_295) rfl ?_
                refine XS.icmpNo X40.here hx rfl (hb hby at_297) rfl (teq (by rw [own_fin _ (own_c0 p0) (own_c1 p0) (own_c2 p0) (own_c3 p0) (own_c0 p1) _ _ _ _ _ _ _ _ _ _ (own_e _ _ _ _ (own_r0 _) (own_r0 _) (fun q => absurd q (Nat.ne_of_lt (Nat.lt_of_lt_of_le Z10_5.lt szo_b11_r)))) (own_e _ _ _ _ (own_r1 _) (own_r0 _) (fun q => absurd q (Nat.ne_of_lt (Nat.lt_of_lt_of_le Z10_9.lt szo_b11_r)))) (own_e _ _ _ _ (own_r2 _) (own_r0 _) (fun q => absurd q (Nat.ne_of_lt (Nat.lt_of_lt_of_le Z10_13.lt szo_b11_r)))) (own_e _ _ _ _ (own_r3 _) (own_r0 _) (fun q => absurd q (Nat.ne_of_lt (Nat.lt_of_lt_of_le Z10_17.lt szo_b11_r)))) (own_cnt _), own_exp, if_neg (fun q => hc217 q.1), if_neg (fun q => hc235 q.1), if_neg (fun q => hc254 q.1), if_pos ⟨hc273, hc280⟩])).2 ?_
                refine XS.iconst X40.here hx rfl (hb hby at_300) ?_
                refine XS.goto X40.here hx rfl (pc0 := 301) (pc' := 305) rfl (hb hby at_301) (by decide) (by decide) ?_
                exact kt
              refine OGo.retZ X40 hx hlk (t := .boolean) (z' := (1 : Int32)) hret (by simp) (hb hby at_305) rfl ?_ (by decide) (by decide)
              show Q0 Z p0 p1 p2 w_high w_cache w_COMPACT_STRINGS h0 n0 _ T40.heap _
              rw [e40]
              exact ⟨rfl, N40, KC11⟩
            · refine OGo.step (F' := T11.setTop (mkF m 286 #[.val (.int p0), .val (.int p1), .val (.int p2), .val (.int (own_c0 p0)), .val (.int (own_c1 p0)), .val (.int (own_c2 p0)), .val (.int (own_c3 p0)), .val (.ref b1), .val (.int (own_cn p2)), .val (.int (((p2.toUInt32 >>> ((3 : Int32) &&& 31).toUInt32).toInt32) &&& (3 : Int32))), .val (.ref b11_r), .val (.int (own_c0 p1)), .val (.int (1 : Int32)), .val (.int (-1 : Int32))] [])) (fun t kt => ?_) ?_
              · show Steps p.tables e below (T11.setTop (mkF m 280 #[.val (.int p0), .val (.int p1), .val (.int p2), .val (.int (own_c0 p0)), .val (.int (own_c1 p0)), .val (.int (own_c2 p0)), .val (.int (own_c3 p0)), .val (.ref b1), .val (.int (own_cn p2)), .val (.int (((p2.toUInt32 >>> ((3 : Int32) &&& 31).toUInt32).toInt32) &&& (3 : Int32))), .val (.ref b11_r), .val (.int (own_c0 p1)), .val (.int (1 : Int32)), .val (.int (-1 : Int32))] [(.int (own_c0 p1)), (.int (own_c3 p0))])) t
                refine XS.icmpYes X11.here hx rfl (pc0 := 280) (pc' := 286) rfl (hb hby at_280) rfl (feq hc280).2 (by decide) (by decide) ?_
                exact kt
              refine OGo.step (F' := T11.setTop (mkF m 292 #[.val (.int p0), .val (.int p1), .val (.int p2), .val (.int (own_c0 p0)), .val (.int (own_c1 p0)), .val (.int (own_c2 p0)), .val (.int (own_c3 p0)), .val (.ref b1), .val (.int (own_cn p2)), .val (.int (((p2.toUInt32 >>> ((3 : Int32) &&& 31).toUInt32).toInt32) &&& (3 : Int32))), .val (.ref b11_r), .val (.int (own_c0 p1)), .val (.int (1 : Int32)), .val (.int (-1 : Int32))] [(.ref b11_r), (.int (own_cn p2)), (.ref b1)])) (fun t kt => ?_) ?_
              · show Steps p.tables e below (T11.setTop (mkF m 286 #[.val (.int p0), .val (.int p1), .val (.int p2), .val (.int (own_c0 p0)), .val (.int (own_c1 p0)), .val (.int (own_c2 p0)), .val (.int (own_c3 p0)), .val (.ref b1), .val (.int (own_cn p2)), .val (.int (((p2.toUInt32 >>> ((3 : Int32) &&& 31).toUInt32).toInt32) &&& (3 : Int32))), .val (.ref b11_r), .val (.int (own_c0 p1)), .val (.int (1 : Int32)), .val (.int (-1 : Int32))] [])) t
                refine XS.aload X11.here hx rfl (hb hby at_286) rfl rfl ?_
                refine XS.iload X11.here hx rfl (hb hby at_288) rfl ?_
                refine XS.aload X11.here hx rfl (hb hby at_290) rfl rfl ?_
                exact kt
              refine OGo.callS X11 hx hZ (y := (⟨"com/example/kette/kette/JsonObject", "walk", "([Ljava/lang/String;ILjava/lang/Object;)I"⟩ : MethodName)) hown (own_wd hw 28 rfl) (own_wd hw 29 rfl) (own_wd hw 30 rfl) (own_wd hw 31 rfl) (by decide) (rm6 l Z az hw [] b1 (own_cn p2) b11_r k1 b2_r b4_r b6_r b8_r b2_t b4_t b6_t b8_t (own_by (own_ch (own_c0 p0))) (own_by (own_ch (own_c1 p0))) (own_by (own_ch (own_c2 p0))) (own_by (own_ch (own_c3 p0))) b11_t (own_by (own_ch (own_c0 p1))) w_COMPACT_STRINGS T11.heap n0 (Nat.le_trans Z0 KC11.1) (V9.keep K11 nin0) (Z10_5.keep K11) (Z10_6.keep K11 nin0) (Z10_7.keep K11 nin0) (Z10_8.keep K11 nin0) (Z10_9.keep K11) (Z10_10.keep K11 nin0) (Z10_11.keep K11 nin0) (Z10_12.keep K11 nin0) (Z10_13.keep K11) (Z10_14.keep K11 nin0) (Z10_15.keep K11 nin0) (Z10_16.keep K11 nin0) (Z10_17.keep K11) (Z10_18.keep K11 nin0) (Z10_19.keep K11 nin0) (Z10_20.keep K11 nin0) P11_0 P11_1 P11_2 P11_3 hC (own_cnt _) (own_stakeep Z10_4 K11 all0)) (W := 0) (by decide) (by decide) (g := (mkF m 292 #[.val (.int p0), .val (.int p1), .val (.int p2), .val (.int (own_c0 p0)), .val (.int (own_c1 p0)), .val (.int (own_c2 p0)), .val (.int (own_c3 p0)), .val (.ref b1), .val (.int (own_cn p2)), .val (.int (((p2.toUInt32 >>> ((3 : Int32) &&& 31).toUInt32).toInt32) &&& (3 : Int32))), .val (.ref b11_r), .val (.int (own_c0 p1)), .val (.int (1 : Int32)), .val (.int (-1 : Int32))] [(.ref b11_r), (.int (own_cn p2)), (.ref b1)])) rfl (by rw [hml]; rfl) (argsL := [(.ref b1), (.int (own_cn p2)), (.ref b11_r)]) (rest := []) (lenOf pd_0_1 rfl) rfl (by show 2 * 0 + _ ≤ _; exact Nat.le_of_eq rfl) (hb hby at_292) rfl rfl (by decide) (by decide) ?_
              rintro _ T41 L41 X41 ⟨rfl, Nq41, e41⟩
              have N41 := Fr.app N11 Nq41
              show OGo _ _ _ _ _ _ _ (T41.setTop (mkF m 295 #[.val (.int p0), .val (.int p1), .val (.int p2), .val (.int (own_c0 p0)), .val (.int (own_c1 p0)), .val (.int (own_c2 p0)), .val (.int (own_c3 p0)), .val (.ref b1), .val (.int (own_cn p2)), .val (.int (((p2.toUInt32 >>> ((3 : Int32) &&& 31).toUInt32).toInt32) &&& (3 : Int32))), .val (.ref b11_r), .val (.int (own_c0 p1)), .val (.int (1 : Int32)), .val (.int (-1 : Int32))] [(.int (f6 (own_cn p2) b11_r b2_r b4_r b6_r b8_r (own_by (own_ch (own_c0 p0))) (own_by (own_ch (own_c1 p0))) (own_by (own_ch (own_c2 p0))) (own_by (own_ch (own_c3 p0))) (own_by (own_ch (own_c0 p1)))))]))
              refine OGo.step (F' := T41.setTop (mkF m 305 #[.val (.int p0), .val (.int p1), .val (.int p2), .val (.int (own_c0 p0)), .val (.int (own_c1 p0)), .val (.int (own_c2 p0)), .val (.int (own_c3 p0)), .val (.ref b1), .val (.int (own_cn p2)), .val (.int (((p2.toUInt32 >>> ((3 : Int32) &&& 31).toUInt32).toInt32) &&& (3 : Int32))), .val (.ref b11_r), .val (.int (own_c0 p1)), .val (.int (1 : Int32)), .val (.int (-1 : Int32))] [(.int (1 : Int32))])) (fun t kt => ?_) ?_
              · show Steps p.tables e below (T41.setTop (mkF m 295 #[.val (.int p0), .val (.int p1), .val (.int p2), .val (.int (own_c0 p0)), .val (.int (own_c1 p0)), .val (.int (own_c2 p0)), .val (.int (own_c3 p0)), .val (.ref b1), .val (.int (own_cn p2)), .val (.int (((p2.toUInt32 >>> ((3 : Int32) &&& 31).toUInt32).toInt32) &&& (3 : Int32))), .val (.ref b11_r), .val (.int (own_c0 p1)), .val (.int (1 : Int32)), .val (.int (-1 : Int32))] [(.int (f6 (own_cn p2) b11_r b2_r b4_r b6_r b8_r (own_by (own_ch (own_c0 p0))) (own_by (own_ch (own_c1 p0))) (own_by (own_ch (own_c2 p0))) (own_by (own_ch (own_c3 p0))) (own_by (own_ch (own_c0 p1)))))])) t
                refine XS.iload X41.here hx rfl (hb hby at_295) rfl ?_
                refine XS.icmpNo X41.here hx rfl (hb hby at_297) rfl (teq (by rw [own_fin _ (own_c0 p0) (own_c1 p0) (own_c2 p0) (own_c3 p0) (own_c0 p1) _ _ _ _ _ _ _ _ _ _ (own_e _ _ _ _ (own_r0 _) (own_r0 _) (fun q => absurd q (Nat.ne_of_lt (Nat.lt_of_lt_of_le Z10_5.lt szo_b11_r)))) (own_e _ _ _ _ (own_r1 _) (own_r0 _) (fun q => absurd q (Nat.ne_of_lt (Nat.lt_of_lt_of_le Z10_9.lt szo_b11_r)))) (own_e _ _ _ _ (own_r2 _) (own_r0 _) (fun q => absurd q (Nat.ne_of_lt (Nat.lt_of_lt_of_le Z10_13.lt szo_b11_r)))) (own_e _ _ _ _ (own_r3 _) (own_r0 _) (fun q => absurd q (Nat.ne_of_lt (Nat.lt_of_lt_of_le Z10_17.lt szo_b11_r)))) (own_cnt _), own_exp, if_neg (fun q => hc217 q.1), if_neg (fun q => hc235 q.1), if_neg (fun q => hc254 q.1), if_neg (fun q => hc280 q.2)])).2 ?_
                refine XS.iconst X41.here hx rfl (hb hby at_300) ?_
                refine XS.goto X41.here hx rfl (pc0 := 301) (pc' := 305) rfl (hb hby at_301) (by decide) (by decide) ?_
                exact kt
              refine OGo.retZ X41 hx hlk (t := .boolean) (z' := (1 : Int32)) hret (by simp) (hb hby at_305) rfl ?_ (by decide) (by decide)
              show Q0 Z p0 p1 p2 w_high w_cache w_COMPACT_STRINGS h0 n0 _ T41.heap _
              rw [e41]
              exact ⟨rfl, N41, KC11⟩
          · refine OGo.step (F' := T11.setTop (mkF m 286 #[.val (.int p0), .val (.int p1), .val (.int p2), .val (.int (own_c0 p0)), .val (.int (own_c1 p0)), .val (.int (own_c2 p0)), .val (.int (own_c3 p0)), .val (.ref b1), .val (.int (own_cn p2)), .val (.int (((p2.toUInt32 >>> ((3 : Int32) &&& 31).toUInt32).toInt32) &&& (3 : Int32))), .val (.ref b11_r), .val (.int (own_c0 p1)), .val (.int (1 : Int32)), .val (.int (-1 : Int32))] [])) (fun t kt => ?_) ?_
            · show Steps p.tables e below (T11.setTop (mkF m 273 #[.val (.int p0), .val (.int p1), .val (.int p2), .val (.int (own_c0 p0)), .val (.int (own_c1 p0)), .val (.int (own_c2 p0)), .val (.int (own_c3 p0)), .val (.ref b1), .val (.int (own_cn p2)), .val (.int (((p2.toUInt32 >>> ((3 : Int32) &&& 31).toUInt32).toInt32) &&& (3 : Int32))), .val (.ref b11_r), .val (.int (own_c0 p1)), .val (.int (1 : Int32)), .val (.int (-1 : Int32))] [(.int (3 : Int32)), (.int (own_cn p2))])) t
              refine XS.icmpYes X11.here hx rfl (pc0 := 273) (pc' := 286) rfl (hb hby at_273) rfl (flt hc273).2.2.2 (by decide) (by decide) ?_
              exact kt
            refine OGo.step (F' := T11.setTop (mkF m 292 #[.val (.int p0), .val (.int p1), .val (.int p2), .val (.int (own_c0 p0)), .val (.int (own_c1 p0)), .val (.int (own_c2 p0)), .val (.int (own_c3 p0)), .val (.ref b1), .val (.int (own_cn p2)), .val (.int (((p2.toUInt32 >>> ((3 : Int32) &&& 31).toUInt32).toInt32) &&& (3 : Int32))), .val (.ref b11_r), .val (.int (own_c0 p1)), .val (.int (1 : Int32)), .val (.int (-1 : Int32))] [(.ref b11_r), (.int (own_cn p2)), (.ref b1)])) (fun t kt => ?_) ?_
            · show Steps p.tables e below (T11.setTop (mkF m 286 #[.val (.int p0), .val (.int p1), .val (.int p2), .val (.int (own_c0 p0)), .val (.int (own_c1 p0)), .val (.int (own_c2 p0)), .val (.int (own_c3 p0)), .val (.ref b1), .val (.int (own_cn p2)), .val (.int (((p2.toUInt32 >>> ((3 : Int32) &&& 31).toUInt32).toInt32) &&& (3 : Int32))), .val (.ref b11_r), .val (.int (own_c0 p1)), .val (.int (1 : Int32)), .val (.int (-1 : Int32))] [])) t
              refine XS.aload X11.here hx rfl (hb hby at_286) rfl rfl ?_
              refine XS.iload X11.here hx rfl (hb hby at_288) rfl ?_
              refine XS.aload X11.here hx rfl (hb hby at_290) rfl rfl ?_
              exact kt
            refine OGo.callS X11 hx hZ (y := (⟨"com/example/kette/kette/JsonObject", "walk", "([Ljava/lang/String;ILjava/lang/Object;)I"⟩ : MethodName)) hown (own_wd hw 28 rfl) (own_wd hw 29 rfl) (own_wd hw 30 rfl) (own_wd hw 31 rfl) (by decide) (rm6 l Z az hw [] b1 (own_cn p2) b11_r k1 b2_r b4_r b6_r b8_r b2_t b4_t b6_t b8_t (own_by (own_ch (own_c0 p0))) (own_by (own_ch (own_c1 p0))) (own_by (own_ch (own_c2 p0))) (own_by (own_ch (own_c3 p0))) b11_t (own_by (own_ch (own_c0 p1))) w_COMPACT_STRINGS T11.heap n0 (Nat.le_trans Z0 KC11.1) (V9.keep K11 nin0) (Z10_5.keep K11) (Z10_6.keep K11 nin0) (Z10_7.keep K11 nin0) (Z10_8.keep K11 nin0) (Z10_9.keep K11) (Z10_10.keep K11 nin0) (Z10_11.keep K11 nin0) (Z10_12.keep K11 nin0) (Z10_13.keep K11) (Z10_14.keep K11 nin0) (Z10_15.keep K11 nin0) (Z10_16.keep K11 nin0) (Z10_17.keep K11) (Z10_18.keep K11 nin0) (Z10_19.keep K11 nin0) (Z10_20.keep K11 nin0) P11_0 P11_1 P11_2 P11_3 hC (own_cnt _) (own_stakeep Z10_4 K11 all0)) (W := 0) (by decide) (by decide) (g := (mkF m 292 #[.val (.int p0), .val (.int p1), .val (.int p2), .val (.int (own_c0 p0)), .val (.int (own_c1 p0)), .val (.int (own_c2 p0)), .val (.int (own_c3 p0)), .val (.ref b1), .val (.int (own_cn p2)), .val (.int (((p2.toUInt32 >>> ((3 : Int32) &&& 31).toUInt32).toInt32) &&& (3 : Int32))), .val (.ref b11_r), .val (.int (own_c0 p1)), .val (.int (1 : Int32)), .val (.int (-1 : Int32))] [(.ref b11_r), (.int (own_cn p2)), (.ref b1)])) rfl (by rw [hml]; rfl) (argsL := [(.ref b1), (.int (own_cn p2)), (.ref b11_r)]) (rest := []) (lenOf pd_0_1 rfl) rfl (by show 2 * 0 + _ ≤ _; exact Nat.le_of_eq rfl) (hb hby at_292) rfl rfl (by decide) (by decide) ?_
            rintro _ T42 L42 X42 ⟨rfl, Nq42, e42⟩
            have N42 := Fr.app N11 Nq42
            show OGo _ _ _ _ _ _ _ (T42.setTop (mkF m 295 #[.val (.int p0), .val (.int p1), .val (.int p2), .val (.int (own_c0 p0)), .val (.int (own_c1 p0)), .val (.int (own_c2 p0)), .val (.int (own_c3 p0)), .val (.ref b1), .val (.int (own_cn p2)), .val (.int (((p2.toUInt32 >>> ((3 : Int32) &&& 31).toUInt32).toInt32) &&& (3 : Int32))), .val (.ref b11_r), .val (.int (own_c0 p1)), .val (.int (1 : Int32)), .val (.int (-1 : Int32))] [(.int (f6 (own_cn p2) b11_r b2_r b4_r b6_r b8_r (own_by (own_ch (own_c0 p0))) (own_by (own_ch (own_c1 p0))) (own_by (own_ch (own_c2 p0))) (own_by (own_ch (own_c3 p0))) (own_by (own_ch (own_c0 p1)))))]))
            refine OGo.step (F' := T42.setTop (mkF m 305 #[.val (.int p0), .val (.int p1), .val (.int p2), .val (.int (own_c0 p0)), .val (.int (own_c1 p0)), .val (.int (own_c2 p0)), .val (.int (own_c3 p0)), .val (.ref b1), .val (.int (own_cn p2)), .val (.int (((p2.toUInt32 >>> ((3 : Int32) &&& 31).toUInt32).toInt32) &&& (3 : Int32))), .val (.ref b11_r), .val (.int (own_c0 p1)), .val (.int (1 : Int32)), .val (.int (-1 : Int32))] [(.int (1 : Int32))])) (fun t kt => ?_) ?_
            · show Steps p.tables e below (T42.setTop (mkF m 295 #[.val (.int p0), .val (.int p1), .val (.int p2), .val (.int (own_c0 p0)), .val (.int (own_c1 p0)), .val (.int (own_c2 p0)), .val (.int (own_c3 p0)), .val (.ref b1), .val (.int (own_cn p2)), .val (.int (((p2.toUInt32 >>> ((3 : Int32) &&& 31).toUInt32).toInt32) &&& (3 : Int32))), .val (.ref b11_r), .val (.int (own_c0 p1)), .val (.int (1 : Int32)), .val (.int (-1 : Int32))] [(.int (f6 (own_cn p2) b11_r b2_r b4_r b6_r b8_r (own_by (own_ch (own_c0 p0))) (own_by (own_ch (own_c1 p0))) (own_by (own_ch (own_c2 p0))) (own_by (own_ch (own_c3 p0))) (own_by (own_ch (own_c0 p1)))))])) t
              refine XS.iload X42.here hx rfl (hb hby at_295) rfl ?_
              refine XS.icmpNo X42.here hx rfl (hb hby at_297) rfl (teq (by rw [own_fin _ (own_c0 p0) (own_c1 p0) (own_c2 p0) (own_c3 p0) (own_c0 p1) _ _ _ _ _ _ _ _ _ _ (own_e _ _ _ _ (own_r0 _) (own_r0 _) (fun q => absurd q (Nat.ne_of_lt (Nat.lt_of_lt_of_le Z10_5.lt szo_b11_r)))) (own_e _ _ _ _ (own_r1 _) (own_r0 _) (fun q => absurd q (Nat.ne_of_lt (Nat.lt_of_lt_of_le Z10_9.lt szo_b11_r)))) (own_e _ _ _ _ (own_r2 _) (own_r0 _) (fun q => absurd q (Nat.ne_of_lt (Nat.lt_of_lt_of_le Z10_13.lt szo_b11_r)))) (own_e _ _ _ _ (own_r3 _) (own_r0 _) (fun q => absurd q (Nat.ne_of_lt (Nat.lt_of_lt_of_le Z10_17.lt szo_b11_r)))) (own_cnt _), own_exp, if_neg (fun q => hc217 q.1), if_neg (fun q => hc235 q.1), if_neg (fun q => hc254 q.1), if_neg (fun q => hc273 q.1)])).2 ?_
              refine XS.iconst X42.here hx rfl (hb hby at_300) ?_
              refine XS.goto X42.here hx rfl (pc0 := 301) (pc' := 305) rfl (hb hby at_301) (by decide) (by decide) ?_
              exact kt
            refine OGo.retZ X42 hx hlk (t := .boolean) (z' := (1 : Int32)) hret (by simp) (hb hby at_305) rfl ?_ (by decide) (by decide)
            show Q0 Z p0 p1 p2 w_high w_cache w_COMPACT_STRINGS h0 n0 _ T42.heap _
            rw [e42]
            exact ⟨rfl, N42, KC11⟩
  · refine OGo.step (F' := T9.setTop (mkF m 118 #[.val (.int p0), .val (.int p1), .val (.int p2), .val (.int (own_c0 p0)), .val (.int (own_c1 p0)), .val (.int (own_c2 p0)), .val (.int (own_c3 p0)), .val (.ref b1), .val (.int (own_cn p2)), .val (.int (((p2.toUInt32 >>> ((3 : Int32) &&& 31).toUInt32).toInt32) &&& (3 : Int32))), .unset, .unset, .unset, .unset] [])) (fun t kt => ?_) ?_
    · show Steps p.tables e below (T9.setTop (mkF m 94 #[.val (.int p0), .val (.int p1), .val (.int p2), .val (.int (own_c0 p0)), .val (.int (own_c1 p0)), .val (.int (own_c2 p0)), .val (.int (own_c3 p0)), .val (.ref b1), .val (.int (own_cn p2)), .val (.int (((p2.toUInt32 >>> ((3 : Int32) &&& 31).toUInt32).toInt32) &&& (3 : Int32))), .unset, .unset, .unset, .unset] [(.int (((p2.toUInt32 >>> ((3 : Int32) &&& 31).toUInt32).toInt32) &&& (3 : Int32)))])) t
      refine XS.ifYes X9.here hx rfl (pc0 := 94) (pc' := 118) rfl (hb hby at_94) rfl ((if0 _ _).trans (feq hc94).2) (by decide) (by decide) ?_
      exact kt
    refine OGo.step (F' := T9.setTop (mkF m 121 #[.val (.int p0), .val (.int p1), .val (.int p2), .val (.int (own_c0 p0)), .val (.int (own_c1 p0)), .val (.int (own_c2 p0)), .val (.int (own_c3 p0)), .val (.ref b1), .val (.int (own_cn p2)), .val (.int (((p2.toUInt32 >>> ((3 : Int32) &&& 31).toUInt32).toInt32) &&& (3 : Int32))), .unset, .unset, .unset, .unset] [(.int (1 : Int32)), (.int (((p2.toUInt32 >>> ((3 : Int32) &&& 31).toUInt32).toInt32) &&& (3 : Int32)))])) (fun t kt => ?_) ?_
    · show Steps p.tables e below (T9.setTop (mkF m 118 #[.val (.int p0), .val (.int p1), .val (.int p2), .val (.int (own_c0 p0)), .val (.int (own_c1 p0)), .val (.int (own_c2 p0)), .val (.int (own_c3 p0)), .val (.ref b1), .val (.int (own_cn p2)), .val (.int (((p2.toUInt32 >>> ((3 : Int32) &&& 31).toUInt32).toInt32) &&& (3 : Int32))), .unset, .unset, .unset, .unset] [])) t
      refine XS.iload X9.here hx rfl (hb hby at_118) rfl ?_
      refine XS.iconst X9.here hx rfl (hb hby at_120) ?_
      exact kt
    by_cases hc121 : (((p2.toUInt32 >>> ((3 : Int32) &&& 31).toUInt32).toInt32) &&& (3 : Int32)) = (1 : Int32)
    · refine OGo.step (F' := T9.setTop (mkF m 124 #[.val (.int p0), .val (.int p1), .val (.int p2), .val (.int (own_c0 p0)), .val (.int (own_c1 p0)), .val (.int (own_c2 p0)), .val (.int (own_c3 p0)), .val (.ref b1), .val (.int (own_cn p2)), .val (.int (((p2.toUInt32 >>> ((3 : Int32) &&& 31).toUInt32).toInt32) &&& (3 : Int32))), .unset, .unset, .unset, .unset] [])) (fun t kt => ?_) ?_
      · show Steps p.tables e below (T9.setTop (mkF m 121 #[.val (.int p0), .val (.int p1), .val (.int p2), .val (.int (own_c0 p0)), .val (.int (own_c1 p0)), .val (.int (own_c2 p0)), .val (.int (own_c3 p0)), .val (.ref b1), .val (.int (own_cn p2)), .val (.int (((p2.toUInt32 >>> ((3 : Int32) &&& 31).toUInt32).toInt32) &&& (3 : Int32))), .unset, .unset, .unset, .unset] [(.int (1 : Int32)), (.int (((p2.toUInt32 >>> ((3 : Int32) &&& 31).toUInt32).toInt32) &&& (3 : Int32)))])) t
        refine XS.icmpNo X9.here hx rfl (hb hby at_121) rfl (teq hc121).2 ?_
        exact kt
      have J : ∀ (nm tn : Addr) (kx : Int32) (o13 : Slot), One o13 → (0 ≤ kx.toInt ∧ kx.toInt ≤ 255) → (Exa Z h9 nm "java/lang/String") → (Fld Z h9 nm "java/lang/String" "value" "[B" (.ref tn)) → (Fld Z h9 nm "java/lang/String" "coder" "B" (.int (0 : Int32))) → (OBy Z h9 tn (own_by (own_ch kx))) → (b2_r = nm → (own_c0 p0) = kx) → (b4_r = nm → (own_c1 p0) = kx) → (b6_r = nm → (own_c2 p0) = kx) → (b8_r = nm → (own_c3 p0) = kx) → OGo p e below s (Q0 Z p0 p1 p2 w_high w_cache w_COMPACT_STRINGS h0 n0) room_1.cells room_1.slots (T9.setTop (mkF m 207 #[.val (.int p0), .val (.int p1), .val (.int p2), .val (.int (own_c0 p0)), .val (.int (own_c1 p0)), .val (.int (own_c2 p0)), .val (.int (own_c3 p0)), .val (.ref b1), .val (.int (own_cn p2)), .val (.int (((p2.toUInt32 >>> ((3 : Int32) &&& 31).toUInt32).toInt32) &&& (3 : Int32))), .val (.ref nm), .val (.int kx), .val (.int (1 : Int32)), o13] [])) := by
        intro nm tn kx o13 ho_o13 hkx E_nm Fv_nm Fc_nm O_tn hal0 hal1 hal2 hal3
        refine OGo.step (F' := T9.setTop (mkF m 217 #[.val (.int p0), .val (.int p1), .val (.int p2), .val (.int (own_c0 p0)), .val (.int (own_c1 p0)), .val (.int (own_c2 p0)), .val (.int (own_c3 p0)), .val (.ref b1), .val (.int (own_cn p2)), .val (.int (((p2.toUInt32 >>> ((3 : Int32) &&& 31).toUInt32).toInt32) &&& (3 : Int32))), .val (.ref nm), .val (.int kx), .val (.int (1 : Int32)), .val (.int (-1 : Int32))] [(.int (own_cn p2))])) (fun t kt => ?_) ?_
        · show Steps p.tables e below (T9.setTop (mkF m 207 #[.val (.int p0), .val (.int p1), .val (.int p2), .val (.int (own_c0 p0)), .val (.int (own_c1 p0)), .val (.int (own_c2 p0)), .val (.int (own_c3 p0)), .val (.ref b1), .val (.int (own_cn p2)), .val (.int (((p2.toUInt32 >>> ((3 : Int32) &&& 31).toUInt32).toInt32) &&& (3 : Int32))), .val (.ref nm), .val (.int kx), .val (.int (1 : Int32)), o13] [])) t
          refine XS.iconst X9.here hx rfl (hb hby at_207) ?_
          refine XS.istoreS X9.here hx rfl (hb hby at_208) rfl rfl ho_o13 ?_
          refine XS.iload X9.here hx rfl (hb hby at_210) rfl ?_
          refine XS.ifNo X9.here hx rfl (hb hby at_212) rfl ((if0 _ _).trans (feq (by decide : ¬ ((1 : Int32) = (0 : Int32)))).1) ?_
          refine XS.iload X9.here hx rfl (hb hby at_215) rfl ?_
          exact kt
        by_cases hc217 : (0 : Int32) < (own_cn p2)
        · refine OGo.step (F' := T9.setTop (mkF m 220 #[.val (.int p0), .val (.int p1), .val (.int p2), .val (.int (own_c0 p0)), .val (.int (own_c1 p0)), .val (.int (own_c2 p0)), .val (.int (own_c3 p0)), .val (.ref b1), .val (.int (own_cn p2)), .val (.int (((p2.toUInt32 >>> ((3 : Int32) &&& 31).toUInt32).toInt32) &&& (3 : Int32))), .val (.ref nm), .val (.int kx), .val (.int (1 : Int32)), .val (.int (-1 : Int32))] [])) (fun t kt => ?_) ?_
          · show Steps p.tables e below (T9.setTop (mkF m 217 #[.val (.int p0), .val (.int p1), .val (.int p2), .val (.int (own_c0 p0)), .val (.int (own_c1 p0)), .val (.int (own_c2 p0)), .val (.int (own_c3 p0)), .val (.ref b1), .val (.int (own_cn p2)), .val (.int (((p2.toUInt32 >>> ((3 : Int32) &&& 31).toUInt32).toInt32) &&& (3 : Int32))), .val (.ref nm), .val (.int kx), .val (.int (1 : Int32)), .val (.int (-1 : Int32))] [(.int (own_cn p2))])) t
            refine XS.ifNo X9.here hx rfl (hb hby at_217) rfl ((if0 _ _).trans (tlt hc217).2.2.2) ?_
            exact kt
          refine OGo.step (F' := T9.setTop (mkF m 223 #[.val (.int p0), .val (.int p1), .val (.int p2), .val (.int (own_c0 p0)), .val (.int (own_c1 p0)), .val (.int (own_c2 p0)), .val (.int (own_c3 p0)), .val (.ref b1), .val (.int (own_cn p2)), .val (.int (((p2.toUInt32 >>> ((3 : Int32) &&& 31).toUInt32).toInt32) &&& (3 : Int32))), .val (.ref nm), .val (.int kx), .val (.int (1 : Int32)), .val (.int (-1 : Int32))] [(.int kx), (.int (own_c0 p0))])) (fun t kt => ?_) ?_
          · show Steps p.tables e below (T9.setTop (mkF m 220 #[.val (.int p0), .val (.int p1), .val (.int p2), .val (.int (own_c0 p0)), .val (.int (own_c1 p0)), .val (.int (own_c2 p0)), .val (.int (own_c3 p0)), .val (.ref b1), .val (.int (own_cn p2)), .val (.int (((p2.toUInt32 >>> ((3 : Int32) &&& 31).toUInt32).toInt32) &&& (3 : Int32))), .val (.ref nm), .val (.int kx), .val (.int (1 : Int32)), .val (.int (-1 : Int32))] [])) t
            refine XS.iloadN X9.here hx rfl (hb hby at_220) rfl ?_
            refine XS.iload X9.here hx rfl (hb hby at_221) rfl ?_
            exact kt
          by_cases hc223 : (own_c0 p0) = kx
          · refine OGo.step (F' := T9.setTop (mkF m 226 #[.val (.int p0), .val (.int p1), .val (.int p2), .val (.int (own_c0 p0)), .val (.int (own_c1 p0)), .val (.int (own_c2 p0)), .val (.int (own_c3 p0)), .val (.ref b1), .val (.int (own_cn p2)), .val (.int (((p2.toUInt32 >>> ((3 : Int32) &&& 31).toUInt32).toInt32) &&& (3 : Int32))), .val (.ref nm), .val (.int kx), .val (.int (1 : Int32)), .val (.int (-1 : Int32))] [])) (fun t kt => ?_) ?_
            · show Steps p.tables e below (T9.setTop (mkF m 223 #[.val (.int p0), .val (.int p1), .val (.int p2), .val (.int (own_c0 p0)), .val (.int (own_c1 p0)), .val (.int (own_c2 p0)), .val (.int (own_c3 p0)), .val (.ref b1), .val (.int (own_cn p2)), .val (.int (((p2.toUInt32 >>> ((3 : Int32) &&& 31).toUInt32).toInt32) &&& (3 : Int32))), .val (.ref nm), .val (.int kx), .val (.int (1 : Int32)), .val (.int (-1 : Int32))] [(.int kx), (.int (own_c0 p0))])) t
              refine XS.icmpNo X9.here hx rfl (hb hby at_223) rfl (teq hc223).2 ?_
              exact kt
            refine OGo.step (F' := T9.setTop (mkF m 292 #[.val (.int p0), .val (.int p1), .val (.int p2), .val (.int (own_c0 p0)), .val (.int (own_c1 p0)), .val (.int (own_c2 p0)), .val (.int (own_c3 p0)), .val (.ref b1), .val (.int (own_cn p2)), .val (.int (((p2.toUInt32 >>> ((3 : Int32) &&& 31).toUInt32).toInt32) &&& (3 : Int32))), .val (.ref nm), .val (.int kx), .val (.int (1 : Int32)), .val (.int (0 : Int32))] [(.ref nm), (.int (own_cn p2)), (.ref b1)])) (fun t kt => ?_) ?_
            · show Steps p.tables e below (T9.setTop (mkF m 226 #[.val (.int p0), .val (.int p1), .val (.int p2), .val (.int (own_c0 p0)), .val (.int (own_c1 p0)), .val (.int (own_c2 p0)), .val (.int (own_c3 p0)), .val (.ref b1), .val (.int (own_cn p2)), .val (.int (((p2.toUInt32 >>> ((3 : Int32) &&& 31).toUInt32).toInt32) &&& (3 : Int32))), .val (.ref nm), .val (.int kx), .val (.int (1 : Int32)), .val (.int (-1 : Int32))] [])) t
              refine XS.iconst X9.here hx rfl (hb hby at_226) ?_
              refine XS.istore X9.here hx rfl (hb hby at_227) rfl (l' := #[.val (.int p0), .val (.int p1), .val (.int p2), .val (.int (own_c0 p0)), .val (.int (own_c1 p0)), .val (.int (own_c2 p0)), .val (.int (own_c3 p0)), .val (.ref b1), .val (.int (own_cn p2)), .val (.int (((p2.toUInt32 >>> ((3 : Int32) &&& 31).toUInt32).toInt32) &&& (3 : Int32))), .val (.ref nm), .val (.int kx), .val (.int (1 : Int32)), .val (.int (0 : Int32))]) rfl ?_
              refine XS.goto X9.here hx rfl (pc0 := 229) (pc' := 286) rfl (hb hby at_229) (by decide) (by decide) ?_
              refine XS.aload X9.here hx rfl (hb hby at_286) rfl rfl ?_
              refine XS.iload X9.here hx rfl (hb hby at_288) rfl ?_
              refine XS.aload X9.here hx rfl (hb hby at_290) rfl rfl ?_
              exact kt
            refine OGo.callS X9 hx hZ (y := (⟨"com/example/kette/kette/JsonObject", "walk", "([Ljava/lang/String;ILjava/lang/Object;)I"⟩ : MethodName)) hown (own_wd hw 28 rfl) (own_wd hw 29 rfl) (own_wd hw 30 rfl) (own_wd hw 31 rfl) (by decide) (rm6 l Z az hw [] b1 (own_cn p2) nm k1 b2_r b4_r b6_r b8_r b2_t b4_t b6_t b8_t (own_by (own_ch (own_c0 p0))) (own_by (own_ch (own_c1 p0))) (own_by (own_ch (own_c2 p0))) (own_by (own_ch (own_c3 p0))) tn (own_by (own_ch kx)) w_COMPACT_STRINGS h9 n0 (Nat.le_trans Z0 KC9.1) V9 Z10_5 Z10_6 Z10_7 Z10_8 Z10_9 Z10_10 Z10_11 Z10_12 Z10_13 Z10_14 Z10_15 Z10_16 Z10_17 Z10_18 Z10_19 Z10_20 E_nm Fv_nm Fc_nm O_tn hC (own_cnt _) Z10_4) (W := 0) (by decide) (by decide) (g := (mkF m 292 #[.val (.int p0), .val (.int p1), .val (.int p2), .val (.int (own_c0 p0)), .val (.int (own_c1 p0)), .val (.int (own_c2 p0)), .val (.int (own_c3 p0)), .val (.ref b1), .val (.int (own_cn p2)), .val (.int (((p2.toUInt32 >>> ((3 : Int32) &&& 31).toUInt32).toInt32) &&& (3 : Int32))), .val (.ref nm), .val (.int kx), .val (.int (1 : Int32)), .val (.int (0 : Int32))] [(.ref nm), (.int (own_cn p2)), (.ref b1)])) rfl (by rw [hml]; rfl) (argsL := [(.ref b1), (.int (own_cn p2)), (.ref nm)]) (rest := []) (lenOf pd_0_1 rfl) rfl (by show 2 * 0 + _ ≤ _; exact Nat.le_of_eq rfl) (hb hby at_292) rfl e9 (by decide) (by decide) ?_
            rintro _ T43 L43 X43 ⟨rfl, Nq43, e43⟩
            have N43 := Fr.app N9 Nq43
            show OGo _ _ _ _ _ _ _ (T43.setTop (mkF m 295 #[.val (.int p0), .val (.int p1), .val (.int p2), .val (.int (own_c0 p0)), .val (.int (own_c1 p0)), .val (.int (own_c2 p0)), .val (.int (own_c3 p0)), .val (.ref b1), .val (.int (own_cn p2)), .val (.int (((p2.toUInt32 >>> ((3 : Int32) &&& 31).toUInt32).toInt32) &&& (3 : Int32))), .val (.ref nm), .val (.int kx), .val (.int (1 : Int32)), .val (.int (0 : Int32))] [(.int (f6 (own_cn p2) nm b2_r b4_r b6_r b8_r (own_by (own_ch (own_c0 p0))) (own_by (own_ch (own_c1 p0))) (own_by (own_ch (own_c2 p0))) (own_by (own_ch (own_c3 p0))) (own_by (own_ch kx))))]))
            refine OGo.step (F' := T43.setTop (mkF m 305 #[.val (.int p0), .val (.int p1), .val (.int p2), .val (.int (own_c0 p0)), .val (.int (own_c1 p0)), .val (.int (own_c2 p0)), .val (.int (own_c3 p0)), .val (.ref b1), .val (.int (own_cn p2)), .val (.int (((p2.toUInt32 >>> ((3 : Int32) &&& 31).toUInt32).toInt32) &&& (3 : Int32))), .val (.ref nm), .val (.int kx), .val (.int (1 : Int32)), .val (.int (0 : Int32))] [(.int (1 : Int32))])) (fun t kt => ?_) ?_
            · show Steps p.tables e below (T43.setTop (mkF m 295 #[.val (.int p0), .val (.int p1), .val (.int p2), .val (.int (own_c0 p0)), .val (.int (own_c1 p0)), .val (.int (own_c2 p0)), .val (.int (own_c3 p0)), .val (.ref b1), .val (.int (own_cn p2)), .val (.int (((p2.toUInt32 >>> ((3 : Int32) &&& 31).toUInt32).toInt32) &&& (3 : Int32))), .val (.ref nm), .val (.int kx), .val (.int (1 : Int32)), .val (.int (0 : Int32))] [(.int (f6 (own_cn p2) nm b2_r b4_r b6_r b8_r (own_by (own_ch (own_c0 p0))) (own_by (own_ch (own_c1 p0))) (own_by (own_ch (own_c2 p0))) (own_by (own_ch (own_c3 p0))) (own_by (own_ch kx))))])) t
              refine XS.iload X43.here hx rfl (hb hby at_295) rfl ?_
              refine XS.icmpNo X43.here hx rfl (hb hby at_297) rfl (teq (by rw [own_fin _ (own_c0 p0) (own_c1 p0) (own_c2 p0) (own_c3 p0) kx _ _ _ _ _ _ _ _ _ _ (own_e _ _ _ _ (own_r0 _) hkx hal0) (own_e _ _ _ _ (own_r1 _) hkx hal1) (own_e _ _ _ _ (own_r2 _) hkx hal2) (own_e _ _ _ _ (own_r3 _) hkx hal3) (own_cnt _), own_exp, if_pos ⟨hc217, hc223⟩])).2 ?_
              refine XS.iconst X43.here hx rfl (hb hby at_300) ?_
              refine XS.goto X43.here hx rfl (pc0 := 301) (pc' := 305) rfl (hb hby at_301) (by decide) (by decide) ?_
              exact kt
            refine OGo.retZ X43 hx hlk (t := .boolean) (z' := (1 : Int32)) hret (by simp) (hb hby at_305) rfl ?_ (by decide) (by decide)
            show Q0 Z p0 p1 p2 w_high w_cache w_COMPACT_STRINGS h0 n0 _ T43.heap _
            rw [e43]
            exact ⟨rfl, N43, KC9⟩
          · refine OGo.step (F' := T9.setTop (mkF m 232 #[.val (.int p0), .val (.int p1), .val (.int p2), .val (.int (own_c0 p0)), .val (.int (own_c1 p0)), .val (.int (own_c2 p0)), .val (.int (own_c3 p0)), .val (.ref b1), .val (.int (own_cn p2)), .val (.int (((p2.toUInt32 >>> ((3 : Int32) &&& 31).toUInt32).toInt32) &&& (3 : Int32))), .val (.ref nm), .val (.int kx), .val (.int (1 : Int32)), .val (.int (-1 : Int32))] [])) (fun t kt => ?_) ?_
            · show Steps p.tables e below (T9.setTop (mkF m 223 #[.val (.int p0), .val (.int p1), .val (.int p2), .val (.int (own_c0 p0)), .val (.int (own_c1 p0)), .val (.int (own_c2 p0)), .val (.int (own_c3 p0)), .val (.ref b1), .val (.int (own_cn p2)), .val (.int (((p2.toUInt32 >>> ((3 : Int32) &&& 31).toUInt32).toInt32) &&& (3 : Int32))), .val (.ref nm), .val (.int kx), .val (.int (1 : Int32)), .val (.int (-1 : Int32))] [(.int kx), (.int (own_c0 p0))])) t
              refine XS.icmpYes X9.here hx rfl (pc0 := 223) (pc' := 232) rfl (hb hby at_223) rfl (feq hc223).2 (by decide) (by decide) ?_
              exact kt
            refine OGo.step (F' := T9.setTop (mkF m 235 #[.val (.int p0), .val (.int p1), .val (.int p2), .val (.int (own_c0 p0)), .val (.int (own_c1 p0)), .val (.int (own_c2 p0)), .val (.int (own_c3 p0)), .val (.ref b1), .val (.int (own_cn p2)), .val (.int (((p2.toUInt32 >>> ((3 : Int32) &&& 31).toUInt32).toInt32) &&& (3 : Int32))), .val (.ref nm), .val (.int kx), .val (.int (1 : Int32)), .val (.int (-1 : Int32))] [(.int (1 : Int32)), (.int (own_cn p2))])) (fun t kt => ?_) ?_
            · show Steps p.tables e below (T9.setTop (mkF m 232 #[.val (.int p0), .val (.int p1), .val (.int p2), .val (.int (own_c0 p0)), .val (.int (own_c1 p0)), .val (.int (own_c2 p0)), .val (.int (own_c3 p0)), .val (.ref b1), .val (.int (own_cn p2)), .val (.int (((p2.toUInt32 >>> ((3 : Int32) &&& 31).toUInt32).toInt32) &&& (3 : Int32))), .val (.ref nm), .val (.int kx), .val (.int (1 : Int32)), .val (.int (-1 : Int32))] [])) t
              refine XS.iload X9.here hx rfl (hb hby at_232) rfl ?_
              refine XS.iconst X9.here hx rfl (hb hby at_234) ?_
              exact kt
            by_cases hc235 : (1 : Int32) < (own_cn p2)
            · refine OGo.step (F' := T9.setTop (mkF m 238 #[.val (.int p0), .val (.int p1), .val (.int p2), .val (.int (own_c0 p0)), .val (.int (own_c1 p0)), .val (.int (own_c2 p0)), .val (.int (own_c3 p0)), .val (.ref b1), .val (.int (own_cn p2)), .val (.int (((p2.toUInt32 >>> ((3 : Int32) &&& 31).toUInt32).toInt32) &&& (3 : Int32))), .val (.ref nm), .val (.int kx), .val (.int (1 : Int32)), .val (.int (-1 : Int32))] [])) (fun t kt => ?_) ?_
              · show Steps p.tables e below (T9.setTop (mkF m 235 #[.val (.int p0), .val (.int p1), .val (.int p2), .val (.int (own_c0 p0)), .val (.int (own_c1 p0)), .val (.int (own_c2 p0)), .val (.int (own_c3 p0)), .val (.ref b1), .val (.int (own_cn p2)), .val (.int (((p2.toUInt32 >>> ((3 : Int32) &&& 31).toUInt32).toInt32) &&& (3 : Int32))), .val (.ref nm), .val (.int kx), .val (.int (1 : Int32)), .val (.int (-1 : Int32))] [(.int (1 : Int32)), (.int (own_cn p2))])) t
                refine XS.icmpNo X9.here hx rfl (hb hby at_235) rfl (tlt hc235).2.2.2 ?_
                exact kt
              refine OGo.step (F' := T9.setTop (mkF m 242 #[.val (.int p0), .val (.int p1), .val (.int p2), .val (.int (own_c0 p0)), .val (.int (own_c1 p0)), .val (.int (own_c2 p0)), .val (.int (own_c3 p0)), .val (.ref b1), .val (.int (own_cn p2)), .val (.int (((p2.toUInt32 >>> ((3 : Int32) &&& 31).toUInt32).toInt32) &&& (3 : Int32))), .val (.ref nm), .val (.int kx), .val (.int (1 : Int32)), .val (.int (-1 : Int32))] [(.int kx), (.int (own_c1 p0))])) (fun t kt => ?_) ?_
              · show Steps p.tables e below (T9.setTop (mkF m 238 #[.val (.int p0), .val (.int p1), .val (.int p2), .val (.int (own_c0 p0)), .val (.int (own_c1 p0)), .val (.int (own_c2 p0)), .val (.int (own_c3 p0)), .val (.ref b1), .val (.int (own_cn p2)), .val (.int (((p2.toUInt32 >>> ((3 : Int32) &&& 31).toUInt32).toInt32) &&& (3 : Int32))), .val (.ref nm), .val (.int kx), .val (.int (1 : Int32)), .val (.int (-1 : Int32))] [])) t
                refine XS.iload X9.here hx rfl (hb hby at_238) rfl ?_
                refine XS.iload X9.here hx rfl (hb hby at_240) rfl ?_
                exact kt
              by_cases hc242 : (own_c1 p0) = kx
              · refine OGo.step (F' := T9.setTop (mkF m 245 #[.val (.int p0), .val (.int p1), .val (.int p2), .val (.int (own_c0 p0)), .val (.int (own_c1 p0)), .val (.int (own_c2 p0)), .val (.int (own_c3 p0)), .val (.ref b1), .val (.int (own_cn p2)), .val (.int (((p2.toUInt32 >>> ((3 : Int32) &&& 31).toUInt32).toInt32) &&& (3 : Int32))), .val (.ref nm), .val (.int kx), .val (.int (1 : Int32)), .val (.int (-1 : Int32))] [])) (fun t kt => ?_) ?_
                · show Steps p.tables e below (T9.setTop (mkF m 242 #[.val (.int p0), .val (.int p1), .val (.int p2), .val (.int (own_c0 p0)), .val (.int (own_c1 p0)), .val (.int (own_c2 p0)), .val (.int (own_c3 p0)), .val (.ref b1), .val (.int (own_cn p2)), .val (.int (((p2.toUInt32 >>> ((3 : Int32) &&& 31).toUInt32).toInt32) &&& (3 : Int32))), .val (.ref nm), .val (.int kx), .val (.int (1 : Int32)), .val (.int (-1 : Int32))] [(.int kx), (.int (own_c1 p0))])) t
                  refine XS.icmpNo X9.here hx rfl (hb hby at_242) rfl (teq hc242).2 ?_
                  exact kt
                refine OGo.step (F' := T9.setTop (mkF m 292 #[.val (.int p0), .val (.int p1), .val (.int p2), .val (.int (own_c0 p0)), .val (.int (own_c1 p0)), .val (.int (own_c2 p0)), .val (.int (own_c3 p0)), .val (.ref b1), .val (.int (own_cn p2)), .val (.int (((p2.toUInt32 >>> ((3 : Int32) &&& 31).toUInt32).toInt32) &&& (3 : Int32))), .val (.ref nm), .val (.int kx), .val (.int (1 : Int32)), .val (.int (1 : Int32))] [(.ref nm), (.int (own_cn p2)), (.ref b1)])) (fun t kt => ?_) ?_
                · show Steps p.tables e below (T9.setTop (mkF m 245 #[.val (.int p0), .val (.int p1), .val (.int p2), .val (.int (own_c0 p0)), .val (.int (own_c1 p0)), .val (.int (own_c2 p0)), .val (.int (own_c3 p0)), .val (.ref b1), .val (.int (own_cn p2)), .val (.int (((p2.toUInt32 >>> ((3 : Int32) &&& 31).toUInt32).toInt32) &&& (3 : Int32))), .val (.ref nm), .val (.int kx), .val (.int (1 : Int32)), .val (.int (-1 : Int32))] [])) t
                  refine XS.iconst X9.here hx rfl (hb hby at_245) ?_
                  refine XS.istore X9.here hx rfl (hb hby at_246) rfl (l' := #[.val (.int p0), .val (.int p1), .val (.int p2), .val (.int (own_c0 p0)), .val (.int (own_c1 p0)), .val (.int (own_c2 p0)), .val (.int (own_c3 p0)), .val (.ref b1), .val (.int (own_cn p2)), .val (.int (((p2.toUInt32 >>> ((3 : Int32) &&& 31).toUInt32).toInt32) &&& (3 : Int32))), .val (.ref nm), .val (.int kx), .val (.int (1 : Int32)), .val (.int (1 : Int32))]) rfl ?_
                  refine XS.goto X9.here hx rfl (pc0 := 248) (pc' := 286) rfl (hb hby at_248) (by decide) (by decide) ?_
                  refine XS.aload X9.here hx rfl (hb hby at_286) rfl rfl ?_
                  refine XS.iload X9.here hx rfl (hb hby at_288) rfl ?_
                  refine XS.aload X9.here hx rfl (hb hby at_290) rfl rfl ?_
                  exact kt
                refine OGo.callS X9 hx hZ (y := (⟨"com/example/kette/kette/JsonObject", "walk", "([Ljava/lang/String;ILjava/lang/Object;)I"⟩ : MethodName)) hown (own_wd hw 28 rfl) (own_wd hw 29 rfl) (own_wd hw 30 rfl) (own_wd hw 31 rfl) (by decide) (rm6 l Z az hw [] b1 (own_cn p2) nm k1 b2_r b4_r b6_r b8_r b2_t b4_t b6_t b8_t (own_by (own_ch (own_c0 p0))) (own_by (own_ch (own_c1 p0))) (own_by (own_ch (own_c2 p0))) (own_by (own_ch (own_c3 p0))) tn (own_by (own_ch kx)) w_COMPACT_STRINGS h9 n0 (Nat.le_trans Z0 KC9.1) V9 Z10_5 Z10_6 Z10_7 Z10_8 Z10_9 Z10_10 Z10_11 Z10_12 Z10_13 Z10_14 Z10_15 Z10_16 Z10_17 Z10_18 Z10_19 Z10_20 E_nm Fv_nm Fc_nm O_tn hC (own_cnt _) Z10_4) (W := 0) (by decide) (by decide) (g := (mkF m 292 #[.val (.int p0), .val (.int p1), .val (.int p2), .val (.int (own_c0 p0)), .val (.int (own_c1 p0)), .val (.int (own_c2 p0)), .val (.int (own_c3 p0)), .val (.ref b1), .val (.int (own_cn p2)), .val (.int (((p2.toUInt32 >>> ((3 : Int32) &&& 31).toUInt32).toInt32) &&& (3 : Int32))), .val (.ref nm), .val (.int kx), .val (.int (1 : Int32)), .val (.int (1 : Int32))] [(.ref nm), (.int (own_cn p2)), (.ref b1)])) rfl (by rw [hml]; rfl) (argsL := [(.ref b1), (.int (own_cn p2)), (.ref nm)]) (rest := []) (lenOf pd_0_1 rfl) rfl (by show 2 * 0 + _ ≤ _; exact Nat.le_of_eq rfl) (hb hby at_292) rfl e9 (by decide) (by decide) ?_
                rintro _ T44 L44 X44 ⟨rfl, Nq44, e44⟩
                have N44 := Fr.app N9 Nq44
                show OGo _ _ _ _ _ _ _ (T44.setTop (mkF m 295 #[.val (.int p0), .val (.int p1), .val (.int p2), .val (.int (own_c0 p0)), .val (.int (own_c1 p0)), .val (.int (own_c2 p0)), .val (.int (own_c3 p0)), .val (.ref b1), .val (.int (own_cn p2)), .val (.int (((p2.toUInt32 >>> ((3 : Int32) &&& 31).toUInt32).toInt32) &&& (3 : Int32))), .val (.ref nm), .val (.int kx), .val (.int (1 : Int32)), .val (.int (1 : Int32))] [(.int (f6 (own_cn p2) nm b2_r b4_r b6_r b8_r (own_by (own_ch (own_c0 p0))) (own_by (own_ch (own_c1 p0))) (own_by (own_ch (own_c2 p0))) (own_by (own_ch (own_c3 p0))) (own_by (own_ch kx))))]))
                refine OGo.step (F' := T44.setTop (mkF m 305 #[.val (.int p0), .val (.int p1), .val (.int p2), .val (.int (own_c0 p0)), .val (.int (own_c1 p0)), .val (.int (own_c2 p0)), .val (.int (own_c3 p0)), .val (.ref b1), .val (.int (own_cn p2)), .val (.int (((p2.toUInt32 >>> ((3 : Int32) &&& 31).toUInt32).toInt32) &&& (3 : Int32))), .val (.ref nm), .val (.int kx), .val (.int (1 : Int32)), .val (.int (1 : Int32))] [(.int (1 : Int32))])) (fun t kt => ?_) ?_
                · show Steps p.tables e below (T44.setTop (mkF m 295 #[.val (.int p0), .val (.int p1), .val (.int p2), .val (.int (own_c0 p0)), .val (.int (own_c1 p0)), .val (.int (own_c2 p0)), .val (.int (own_c3 p0)), .val (.ref b1), .val (.int (own_cn p2)), .val (.int (((p2.toUInt32 >>> ((3 : Int32) &&& 31).toUInt32).toInt32) &&& (3 : Int32))), .val (.ref nm), .val (.int kx), .val (.int (1 : Int32)), .val (.int (1 : Int32))] [(.int (f6 (own_cn p2) nm b2_r b4_r b6_r b8_r (own_by (own_ch (own_c0 p0))) (own_by (own_ch (own_c1 p0))) (own_by (own_ch (own_c2 p0))) (own_by (own_ch (own_c3 p0))) (own_by (own_ch kx))))])) t
                  refine XS.iload X44.here hx rfl (hb hby at_295) rfl ?_
                  refine XS.icmpNo X44.here hx rfl (hb hby at_297) rfl (teq (by rw [own_fin _ (own_c0 p0) (own_c1 p0) (own_c2 p0) (own_c3 p0) kx _ _ _ _ _ _ _ _ _ _ (own_e _ _ _ _ (own_r0 _) hkx hal0) (own_e _ _ _ _ (own_r1 _) hkx hal1) (own_e _ _ _ _ (own_r2 _) hkx hal2) (own_e _ _ _ _ (own_r3 _) hkx hal3) (own_cnt _), own_exp, if_neg (fun q => hc223 q.2), if_pos ⟨hc235, hc242⟩])).2 ?_
                  refine XS.iconst X44.here hx rfl (hb hby at_300) ?_
                  refine XS.goto X44.here hx rfl (pc0 := 301) (pc' := 305) rfl (hb hby at_301) (by decide) (by decide) ?_
                  exact kt
                refine OGo.retZ X44 hx hlk (t := .boolean) (z' := (1 : Int32)) hret (by simp) (hb hby at_305) rfl ?_ (by decide) (by decide)
                show Q0 Z p0 p1 p2 w_high w_cache w_COMPACT_STRINGS h0 n0 _ T44.heap _
                rw [e44]
                exact ⟨rfl, N44, KC9⟩
              · refine OGo.step (F' := T9.setTop (mkF m 251 #[.val (.int p0), .val (.int p1), .val (.int p2), .val (.int (own_c0 p0)), .val (.int (own_c1 p0)), .val (.int (own_c2 p0)), .val (.int (own_c3 p0)), .val (.ref b1), .val (.int (own_cn p2)), .val (.int (((p2.toUInt32 >>> ((3 : Int32) &&& 31).toUInt32).toInt32) &&& (3 : Int32))), .val (.ref nm), .val (.int kx), .val (.int (1 : Int32)), .val (.int (-1 : Int32))] [])) (fun t kt => ?_) ?_
                · show Steps p.tables e below (T9.setTop (mkF m 242 #[.val (.int p0), .val (.int p1), .val (.int p2), .val (.int (own_c0 p0)), .val (.int (own_c1 p0)), .val (.int (own_c2 p0)), .val (.int (own_c3 p0)), .val (.ref b1), .val (.int (own_cn p2)), .val (.int (((p2.toUInt32 >>> ((3 : Int32) &&& 31).toUInt32).toInt32) &&& (3 : Int32))), .val (.ref nm), .val (.int kx), .val (.int (1 : Int32)), .val (.int (-1 : Int32))] [(.int kx), (.int (own_c1 p0))])) t
                  refine XS.icmpYes X9.here hx rfl (pc0 := 242) (pc' := 251) rfl (hb hby at_242) rfl (feq hc242).2 (by decide) (by decide) ?_
                  exact kt
                refine OGo.step (F' := T9.setTop (mkF m 254 #[.val (.int p0), .val (.int p1), .val (.int p2), .val (.int (own_c0 p0)), .val (.int (own_c1 p0)), .val (.int (own_c2 p0)), .val (.int (own_c3 p0)), .val (.ref b1), .val (.int (own_cn p2)), .val (.int (((p2.toUInt32 >>> ((3 : Int32) &&& 31).toUInt32).toInt32) &&& (3 : Int32))), .val (.ref nm), .val (.int kx), .val (.int (1 : Int32)), .val (.int (-1 : Int32))] [(.int (2 : Int32)), (.int (own_cn p2))])) (fun t kt => ?_) ?_
                · show Steps p.tables e below (T9.setTop (mkF m 251 #[.val (.int p0), .val (.int p1), .val (.int p2), .val (.int (own_c0 p0)), .val (.int (own_c1 p0)), .val (.int (own_c2 p0)), .val (.int (own_c3 p0)), .val (.ref b1), .val (.int (own_cn p2)), .val (.int (((p2.toUInt32 >>> ((3 : Int32) &&& 31).toUInt32).toInt32) &&& (3 : Int32))), .val (.ref nm), .val (.int kx), .val (.int (1 : Int32)), .val (.int (-1 : Int32))] [])) t
                  refine XS.iload X9.here hx rfl (hb hby at_251) rfl ?_
                  refine XS.iconst X9.here hx rfl (hb hby at_253) ?_
                  exact kt
                by_cases hc254 : (2 : Int32) < (own_cn p2)
                · refine OGo.step (F' := T9.setTop (mkF m 257 #[.val (.int p0), .val (.int p1), .val (.int p2), .val (.int (own_c0 p0)), .val (.int (own_c1 p0)), .val (.int (own_c2 p0)), .val (.int (own_c3 p0)), .val (.ref b1), .val (.int (own_cn p2)), .val (.int (((p2.toUInt32 >>> ((3 : Int32) &&& 31).toUInt32).toInt32) &&& (3 : Int32))), .val (.ref nm), .val (.int kx), .val (.int (1 : Int32)), .val (.int (-1 : Int32))] [])) (fun t kt => ?_) ?_
                  · show Steps p.tables e below (T9.setTop (mkF m 254 #[.val (.int p0), .val (.int p1), .val (.int p2), .val (.int (own_c0 p0)), .val (.int (own_c1 p0)), .val (.int (own_c2 p0)), .val (.int (own_c3 p0)), .val (.ref b1), .val (.int (own_cn p2)), .val (.int (((p2.toUInt32 >>> ((3 : Int32) &&& 31).toUInt32).toInt32) &&& (3 : Int32))), .val (.ref nm), .val (.int kx), .val (.int (1 : Int32)), .val (.int (-1 : Int32))] [(.int (2 : Int32)), (.int (own_cn p2))])) t
                    refine XS.icmpNo X9.here hx rfl (hb hby at_254) rfl (tlt hc254).2.2.2 ?_
                    exact kt
                  refine OGo.step (F' := T9.setTop (mkF m 261 #[.val (.int p0), .val (.int p1), .val (.int p2), .val (.int (own_c0 p0)), .val (.int (own_c1 p0)), .val (.int (own_c2 p0)), .val (.int (own_c3 p0)), .val (.ref b1), .val (.int (own_cn p2)), .val (.int (((p2.toUInt32 >>> ((3 : Int32) &&& 31).toUInt32).toInt32) &&& (3 : Int32))), .val (.ref nm), .val (.int kx), .val (.int (1 : Int32)), .val (.int (-1 : Int32))] [(.int kx), (.int (own_c2 p0))])) (fun t kt => ?_) ?_
                  · show Steps p.tables e below (T9.setTop (mkF m 257 #[.val (.int p0), .val (.int p1), .val (.int p2), .val (.int (own_c0 p0)), .val (.int (own_c1 p0)), .val (.int (own_c2 p0)), .val (.int (own_c3 p0)), .val (.ref b1), .val (.int (own_cn p2)), .val (.int (((p2.toUInt32 >>> ((3 : Int32) &&& 31).toUInt32).toInt32) &&& (3 : Int32))), .val (.ref nm), .val (.int kx), .val (.int (1 : Int32)), .val (.int (-1 : Int32))] [])) t
                    refine XS.iload X9.here hx rfl (hb hby at_257) rfl ?_
                    refine XS.iload X9.here hx rfl (hb hby at_259) rfl ?_
                    exact kt
                  by_cases hc261 : (own_c2 p0) = kx
                  · refine OGo.step (F' := T9.setTop (mkF m 264 #[.val (.int p0), .val (.int p1), .val (.int p2), .val (.int (own_c0 p0)), .val (.int (own_c1 p0)), .val (.int (own_c2 p0)), .val (.int (own_c3 p0)), .val (.ref b1), .val (.int (own_cn p2)), .val (.int (((p2.toUInt32 >>> ((3 : Int32) &&& 31).toUInt32).toInt32) &&& (3 : Int32))), .val (.ref nm), .val (.int kx), .val (.int (1 : Int32)), .val (.int (-1 : Int32))] [])) (fun t kt => ?_) ?_
                    · show Steps p.tables e below (T9.setTop (mkF m 261 #[.val (.int p0), .val (.int p1), .val (.int p2), .val (.int (own_c0 p0)), .val (.int (own_c1 p0)), .val (.int (own_c2 p0)), .val (.int (own_c3 p0)), .val (.ref b1), .val (.int (own_cn p2)), .val (.int (((p2.toUInt32 >>> ((3 : Int32) &&& 31).toUInt32).toInt32) &&& (3 : Int32))), .val (.ref nm), .val (.int kx), .val (.int (1 : Int32)), .val (.int (-1 : Int32))] [(.int kx), (.int (own_c2 p0))])) t
                      refine XS.icmpNo X9.here hx rfl (hb hby at_261) rfl (teq hc261).2 ?_
                      exact kt
                    refine OGo.step (F' := T9.setTop (mkF m 292 #[.val (.int p0), .val (.int p1), .val (.int p2), .val (.int (own_c0 p0)), .val (.int (own_c1 p0)), .val (.int (own_c2 p0)), .val (.int (own_c3 p0)), .val (.ref b1), .val (.int (own_cn p2)), .val (.int (((p2.toUInt32 >>> ((3 : Int32) &&& 31).toUInt32).toInt32) &&& (3 : Int32))), .val (.ref nm), .val (.int kx), .val (.int (1 : Int32)), .val (.int (2 : Int32))] [(.ref nm), (.int (own_cn p2)), (.ref b1)])) (fun t kt => ?_) ?_
                    · show Steps p.tables e below (T9.setTop (mkF m 264 #[.val (.int p0), .val (.int p1), .val (.int p2), .val (.int (own_c0 p0)), .val (.int (own_c1 p0)), .val (.int (own_c2 p0)), .val (.int (own_c3 p0)), .val (.ref b1), .val (.int (own_cn p2)), .val (.int (((p2.toUInt32 >>> ((3 : Int32) &&& 31).toUInt32).toInt32) &&& (3 : Int32))), .val (.ref nm), .val (.int kx), .val (.int (1 : Int32)), .val (.int (-1 : Int32))] [])) t
                      refine XS.iconst X9.here hx rfl (hb hby at_264) ?_
                      refine XS.istore X9.here hx rfl (hb hby at_265) rfl (l' := #[.val (.int p0), .val (.int p1), .val (.int p2), .val (.int (own_c0 p0)), .val (.int (own_c1 p0)), .val (.int (own_c2 p0)), .val (.int (own_c3 p0)), .val (.ref b1), .val (.int (own_cn p2)), .val (.int (((p2.toUInt32 >>> ((3 : Int32) &&& 31).toUInt32).toInt32) &&& (3 : Int32))), .val (.ref nm), .val (.int kx), .val (.int (1 : Int32)), .val (.int (2 : Int32))]) rfl ?_
                      refine XS.goto X9.here hx rfl (pc0 := 267) (pc' := 286) rfl (hb hby at_267) (by decide) (by decide) ?_
                      refine XS.aload X9.here hx rfl (hb hby at_286) rfl rfl ?_
                      refine XS.iload X9.here hx rfl (hb hby at_288) rfl ?_
                      refine XS.aload X9.here hx rfl (hb hby at_290) rfl rfl ?_
                      exact kt
                    refine OGo.callS X9 hx hZ (y := (⟨"com/example/kette/kette/JsonObject", "walk", "([Ljava/lang/String;ILjava/lang/Object;)I"⟩ : MethodName)) hown (own_wd hw 28 rfl) (own_wd hw 29 rfl) (own_wd hw 30 rfl) (own_wd hw 31 rfl) (by decide) (rm6 l Z az hw [] b1 (own_cn p2) nm k1 b2_r b4_r b6_r b8_r b2_t b4_t b6_t b8_t (own_by (own_ch (own_c0 p0))) (own_by (own_ch (own_c1 p0))) (own_by (own_ch (own_c2 p0))) (own_by (own_ch (own_c3 p0))) tn (own_by (own_ch kx)) w_COMPACT_STRINGS h9 n0 (Nat.le_trans Z0 KC9.1) V9 Z10_5 Z10_6 Z10_7 Z10_8 Z10_9 Z10_10 Z10_11 Z10_12 Z10_13 Z10_14 Z10_15 Z10_16 Z10_17 Z10_18 Z10_19 Z10_20 E_nm Fv_nm Fc_nm O_tn hC (own_cnt _) Z10_4) (W := 0) (by decide) (by decide) (g := (mkF m 292 #[.val (.int p0), .val (.int p1), .val (.int p2), .val (.int (own_c0 p0)), .val (.int (own_c1 p0)), .val (.int (own_c2 p0)), .val (.int (own_c3 p0)), .val (.ref b1), .val (.int (own_cn p2)), .val (.int (((p2.toUInt32 >>> ((3 : Int32) &&& 31).toUInt32).toInt32) &&& (3 : Int32))), .val (.ref nm), .val (.int kx), .val (.int (1 : Int32)), .val (.int (2 : Int32))] [(.ref nm), (.int (own_cn p2)), (.ref b1)])) rfl (by rw [hml]; rfl) (argsL := [(.ref b1), (.int (own_cn p2)), (.ref nm)]) (rest := []) (lenOf pd_0_1 rfl) rfl (by show 2 * 0 + _ ≤ _; exact Nat.le_of_eq rfl) (hb hby at_292) rfl e9 (by decide) (by decide) ?_
                    rintro _ T45 L45 X45 ⟨rfl, Nq45, e45⟩
                    have N45 := Fr.app N9 Nq45
                    show OGo _ _ _ _ _ _ _ (T45.setTop (mkF m 295 #[.val (.int p0), .val (.int p1), .val (.int p2), .val (.int (own_c0 p0)), .val (.int (own_c1 p0)), .val (.int (own_c2 p0)), .val (.int (own_c3 p0)), .val (.ref b1), .val (.int (own_cn p2)), .val (.int (((p2.toUInt32 >>> ((3 : Int32) &&& 31).toUInt32).toInt32) &&& (3 : Int32))), .val (.ref nm), .val (.int kx), .val (.int (1 : Int32)), .val (.int (2 : Int32))] [(.int (f6 (own_cn p2) nm b2_r b4_r b6_r b8_r (own_by (own_ch (own_c0 p0))) (own_by (own_ch (own_c1 p0))) (own_by (own_ch (own_c2 p0))) (own_by (own_ch (own_c3 p0))) (own_by (own_ch kx))))]))
                    refine OGo.step (F' := T45.setTop (mkF m 305 #[.val (.int p0), .val (.int p1), .val (.int p2), .val (.int (own_c0 p0)), .val (.int (own_c1 p0)), .val (.int (own_c2 p0)), .val (.int (own_c3 p0)), .val (.ref b1), .val (.int (own_cn p2)), .val (.int (((p2.toUInt32 >>> ((3 : Int32) &&& 31).toUInt32).toInt32) &&& (3 : Int32))), .val (.ref nm), .val (.int kx), .val (.int (1 : Int32)), .val (.int (2 : Int32))] [(.int (1 : Int32))])) (fun t kt => ?_) ?_
                    · show Steps p.tables e below (T45.setTop (mkF m 295 #[.val (.int p0), .val (.int p1), .val (.int p2), .val (.int (own_c0 p0)), .val (.int (own_c1 p0)), .val (.int (own_c2 p0)), .val (.int (own_c3 p0)), .val (.ref b1), .val (.int (own_cn p2)), .val (.int (((p2.toUInt32 >>> ((3 : Int32) &&& 31).toUInt32).toInt32) &&& (3 : Int32))), .val (.ref nm), .val (.int kx), .val (.int (1 : Int32)), .val (.int (2 : Int32))] [(.int (f6 (own_cn p2) nm b2_r b4_r b6_r b8_r (own_by (own_ch (own_c0 p0))) (own_by (own_ch (own_c1 p0))) (own_by (own_ch (own_c2 p0))) (own_by (own_ch (own_c3 p0))) (own_by (own_ch kx))))])) t
                      refine XS.iload X45.here hx rfl (hb hby at_295) rfl ?_
                      refine XS.icmpNo X45.here hx rfl (hb hby at_297) rfl (teq (by rw [own_fin _ (own_c0 p0) (own_c1 p0) (own_c2 p0) (own_c3 p0) kx _ _ _ _ _ _ _ _ _ _ (own_e _ _ _ _ (own_r0 _) hkx hal0) (own_e _ _ _ _ (own_r1 _) hkx hal1) (own_e _ _ _ _ (own_r2 _) hkx hal2) (own_e _ _ _ _ (own_r3 _) hkx hal3) (own_cnt _), own_exp, if_neg (fun q => hc223 q.2), if_neg (fun q => hc242 q.2), if_pos ⟨hc254, hc261⟩])).2 ?_
                      refine XS.iconst X45.here hx rfl (hb hby at_300) ?_
                      refine XS.goto X45.here hx rfl (pc0 := 301) (pc' := 305) rfl (hb hby at_301) (by decide) (by decide) ?_
                      exact kt
                    refine OGo.retZ X45 hx hlk (t := .boolean) (z' := (1 : Int32)) hret (by simp) (hb hby at_305) rfl ?_ (by decide) (by decide)
                    show Q0 Z p0 p1 p2 w_high w_cache w_COMPACT_STRINGS h0 n0 _ T45.heap _
                    rw [e45]
                    exact ⟨rfl, N45, KC9⟩
                  · refine OGo.step (F' := T9.setTop (mkF m 270 #[.val (.int p0), .val (.int p1), .val (.int p2), .val (.int (own_c0 p0)), .val (.int (own_c1 p0)), .val (.int (own_c2 p0)), .val (.int (own_c3 p0)), .val (.ref b1), .val (.int (own_cn p2)), .val (.int (((p2.toUInt32 >>> ((3 : Int32) &&& 31).toUInt32).toInt32) &&& (3 : Int32))), .val (.ref nm), .val (.int kx), .val (.int (1 : Int32)), .val (.int (-1 : Int32))] [])) (fun t kt => ?_) ?_
                    · show Steps p.tables e below (T9.setTop (mkF m 261 #[.val (.int p0), .val (.int p1), .val (.int p2), .val (.int (own_c0 p0)), .val (.int (own_c1 p0)), .val (.int (own_c2 p0)), .val (.int (own_c3 p0)), .val (.ref b1), .val (.int (own_cn p2)), .val (.int (((p2.toUInt32 >>> ((3 : Int32) &&& 31).toUInt32).toInt32) &&& (3 : Int32))), .val (.ref nm), .val (.int kx), .val (.int (1 : Int32)), .val (.int (-1 : Int32))] [(.int kx), (.int (own_c2 p0))])) t
                      refine XS.icmpYes X9.here hx rfl (pc0 := 261) (pc' := 270) rfl (hb hby at_261) rfl (feq hc261).2 (by decide) (by decide) ?_
                      exact kt
                    refine OGo.step (F' := T9.setTop (mkF m 273 #[.val (.int p0), .val (.int p1), .val (.int p2), .val (.int (own_c0 p0)), .val (.int (own_c1 p0)), .val (.int (own_c2 p0)), .val (.int (own_c3 p0)), .val (.ref b1), .val (.int (own_cn p2)), .val (.int (((p2.toUInt32 >>> ((3 : Int32) &&& 31).toUInt32).toInt32) &&& (3 : Int32))), .val (.ref nm), .val (.int kx), .val (.int (1 : Int32)), .val (.int (-1 : Int32))] [(.int (3 : Int32)), (.int (own_cn p2))])) (fun t kt => ?_) ?_
                    · show Steps p.tables e below (T9.setTop (mkF m 270 #[.val (.int p0), .val (.int p1), .val (.int p2), .val (.int (own_c0 p0)), .val (.int (own_c1 p0)), .val (.int (own_c2 p0)), .val (.int (own_c3 p0)), .val (.ref b1), .val (.int (own_cn p2)), .val (.int (((p2.toUInt32 >>> ((3 : Int32) &&& 31).toUInt32).toInt32) &&& (3 : Int32))), .val (.ref nm), .val (.int kx), .val (.int (1 : Int32)), .val (.int (-1 : Int32))] [])) t
                      refine XS.iload X9.here hx rfl (hb hby at_270) rfl ?_
                      refine XS.iconst X9.here hx rfl (hb hby at_272) ?_
                      exact kt
                    by_cases hc273 : (3 : Int32) < (own_cn p2)
                    · refine OGo.step (F' := T9.setTop (mkF m 276 #[.val (.int p0), .val (.int p1), .val (.int p2), .val (.int (own_c0 p0)), .val (.int (own_c1 p0)), .val (.int (own_c2 p0)), .val (.int (own_c3 p0)), .val (.ref b1), .val (.int (own_cn p2)), .val (.int (((p2.toUInt32 >>> ((3 : Int32) &&& 31).toUInt32).toInt32) &&& (3 : Int32))), .val (.ref nm), .val (.int kx), .val (.int (1 : Int32)), .val (.int (-1 : Int32))] [])) (fun t kt => ?_) ?_
                      · show Steps p.tables e below (T9.setTop (mkF m 273 #[.val (.int p0), .val (.int p1), .val (.int p2), .val (.int (own_c0 p0)), .val (.int (own_c1 p0)), .val (.int (own_c2 p0)), .val (.int (own_c3 p0)), .val (.ref b1), .val (.int (own_cn p2)), .val (.int (((p2.toUInt32 >>> ((3 : Int32) &&& 31).toUInt32).toInt32) &&& (3 : Int32))), .val (.ref nm), .val (.int kx), .val (.int (1 : Int32)), .val (.int (-1 : Int32))] [(.int (3 : Int32)), (.int (own_cn p2))])) t
                        refine XS.icmpNo X9.here hx rfl (hb hby at_273) rfl (tlt hc273).2.2.2 ?_
                        exact kt
                      refine OGo.step (F' := T9.setTop (mkF m 280 #[.val (.int p0), .val (.int p1), .val (.int p2), .val (.int (own_c0 p0)), .val (.int (own_c1 p0)), .val (.int (own_c2 p0)), .val (.int (own_c3 p0)), .val (.ref b1), .val (.int (own_cn p2)), .val (.int (((p2.toUInt32 >>> ((3 : Int32) &&& 31).toUInt32).toInt32) &&& (3 : Int32))), .val (.ref nm), .val (.int kx), .val (.int (1 : Int32)), .val (.int (-1 : Int32))] [(.int kx), (.int (own_c3 p0))])) (fun t kt => ?_) ?_
                      · show Steps p.tables e below (T9.setTop (mkF m 276 #[.val (.int p0), .val (.int p1), .val (.int p2), .val (.int (own_c0 p0)), .val (.int (own_c1 p0)), .val (.int (own_c2 p0)), .val (.int (own_c3 p0)), .val (.ref b1), .val (.int (own_cn p2)), .val (.int (((p2.toUInt32 >>> ((3 : Int32) &&& 31).toUInt32).toInt32) &&& (3 : Int32))), .val (.ref nm), .val (.int kx), .val (.int (1 : Int32)), .val (.int (-1 : Int32))] [])) t
                        refine XS.iload X9.here hx rfl (hb hby at_276) rfl ?_
                        refine XS.iload X9.here hx rfl (hb hby at_278) rfl ?_
                        exact kt
                      by_cases hc280 : (own_c3 p0) = kx
                      · refine OGo.step (F' := T9.setTop (mkF m 283 #[.val (.int p0), .val (.int p1), .val (.int p2), .val (.int (own_c0 p0)), .val (.int (own_c1 p0)), .val (.int (own_c2 p0)), .val (.int (own_c3 p0)), .val (.ref b1), .val (.int (own_cn p2)), .val (.int (((p2.toUInt32 >>> ((3 : Int32) &&& 31).toUInt32).toInt32) &&& (3 : Int32))), .val (.ref nm), .val (.int kx), .val (.int (1 : Int32)), .val (.int (-1 : Int32))] [])) (fun t kt => ?_) ?_
                        · show Steps p.tables e below (T9.setTop (mkF m 280 #[.val (.int p0), .val (.int p1), .val (.int p2), .val (.int (own_c0 p0)), .val (.int (own_c1 p0)), .val (.int (own_c2 p0)), .val (.int (own_c3 p0)), .val (.ref b1), .val (.int (own_cn p2)), .val (.int (((p2.toUInt32 >>> ((3 : Int32) &&& 31).toUInt32).toInt32) &&& (3 : Int32))), .val (.ref nm), .val (.int kx), .val (.int (1 : Int32)), .val (.int (-1 : Int32))] [(.int kx), (.int (own_c3 p0))])) t
                          refine XS.icmpNo X9.here hx rfl (hb hby at_280) rfl (teq hc280).2 ?_
                          exact kt
                        refine OGo.step (F' := T9.setTop (mkF m 292 #[.val (.int p0), .val (.int p1), .val (.int p2), .val (.int (own_c0 p0)), .val (.int (own_c1 p0)), .val (.int (own_c2 p0)), .val (.int (own_c3 p0)), .val (.ref b1), .val (.int (own_cn p2)), .val (.int (((p2.toUInt32 >>> ((3 : Int32) &&& 31).toUInt32).toInt32) &&& (3 : Int32))), .val (.ref nm), .val (.int kx), .val (.int (1 : Int32)), .val (.int (3 : Int32))] [(.ref nm), (.int (own_cn p2)), (.ref b1)])) (fun t kt => ?_) ?_
                        · show Steps p.tables e below (T9.setTop (mkF m 283 #[.val (.int p0), .val (.int p1), .val (.int p2), .val (.int (own_c0 p0)), .val (.int (own_c1 p0)), .val (.int (own_c2 p0)), .val (.int (own_c3 p0)), .val (.ref b1), .val (.int (own_cn p2)), .val (.int (((p2.toUInt32 >>> ((3 : Int32) &&& 31).toUInt32).toInt32) &&& (3 : Int32))), .val (.ref nm), .val (.int kx), .val (.int (1 : Int32)), .val (.int (-1 : Int32))] [])) t
                          refine XS.iconst X9.here hx rfl (hb hby at_283) ?_
                          refine XS.istore X9.here hx rfl (hb hby at_284) rfl (l' := #[.val (.int p0), .val (.int p1), .val (.int p2), .val (.int (own_c0 p0)), .val (.int (own_c1 p0)), .val (.int (own_c2 p0)), .val (.int (own_c3 p0)), .val (.ref b1), .val (.int (own_cn p2)), .val (.int (((p2.toUInt32 >>> ((3 : Int32) &&& 31).toUInt32).toInt32) &&& (3 : Int32))), .val (.ref nm), .val (.int kx), .val (.int (1 : Int32)), .val (.int (3 : Int32))]) rfl ?_
                          refine XS.aload X9.here hx rfl (hb hby at_286) rfl rfl ?_
                          refine XS.iload X9.here hx rfl (hb hby at_288) rfl ?_
                          refine XS.aload X9.here hx rfl (hb hby at_290) rfl rfl ?_
                          exact kt
                        refine OGo.callS X9 hx hZ (y := (⟨"com/example/kette/kette/JsonObject", "walk", "([Ljava/lang/String;ILjava/lang/Object;)I"⟩ : MethodName)) hown (own_wd hw 28 rfl) (own_wd hw 29 rfl) (own_wd hw 30 rfl) (own_wd hw 31 rfl) (by decide) (rm6 l Z az hw [] b1 (own_cn p2) nm k1 b2_r b4_r b6_r b8_r b2_t b4_t b6_t b8_t (own_by (own_ch (own_c0 p0))) (own_by (own_ch (own_c1 p0))) (own_by (own_ch (own_c2 p0))) (own_by (own_ch (own_c3 p0))) tn (own_by (own_ch kx)) w_COMPACT_STRINGS h9 n0 (Nat.le_trans Z0 KC9.1) V9 Z10_5 Z10_6 Z10_7 Z10_8 Z10_9 Z10_10 Z10_11 Z10_12 Z10_13 Z10_14 Z10_15 Z10_16 Z10_17 Z10_18 Z10_19 Z10_20 E_nm Fv_nm Fc_nm O_tn hC (own_cnt _) Z10_4) (W := 0) (by decide) (by decide) (g := (mkF m 292 #[.val (.int p0), .val (.int p1), .val (.int p2), .val (.int (own_c0 p0)), .val (.int (own_c1 p0)), .val (.int (own_c2 p0)), .val (.int (own_c3 p0)), .val (.ref b1), .val (.int (own_cn p2)), .val (.int (((p2.toUInt32 >>> ((3 : Int32) &&& 31).toUInt32).toInt32) &&& (3 : Int32))), .val (.ref nm), .val (.int kx), .val (.int (1 : Int32)), .val (.int (3 : Int32))] [(.ref nm), (.int (own_cn p2)), (.ref b1)])) rfl (by rw [hml]; rfl) (argsL := [(.ref b1), (.int (own_cn p2)), (.ref nm)]) (rest := []) (lenOf pd_0_1 rfl) rfl (by show 2 * 0 + _ ≤ _; exact Nat.le_of_eq rfl) (hb hby at_292) rfl e9 (by decide) (by decide) ?_
                        rintro _ T46 L46 X46 ⟨rfl, Nq46, e46⟩
                        have N46 := Fr.app N9 Nq46
                        show OGo _ _ _ _ _ _ _ (T46.setTop (mkF m 295 #[.val (.int p0), .val (.int p1), .val (.int p2), .val (.int (own_c0 p0)), .val (.int (own_c1 p0)), .val (.int (own_c2 p0)), .val (.int (own_c3 p0)), .val (.ref b1), .val (.int (own_cn p2)), .val (.int (((p2.toUInt32 >>> ((3 : Int32) &&& 31).toUInt32).toInt32) &&& (3 : Int32))), .val (.ref nm), .val (.int kx), .val (.int (1 : Int32)), .val (.int (3 : Int32))] [(.int (f6 (own_cn p2) nm b2_r b4_r b6_r b8_r (own_by (own_ch (own_c0 p0))) (own_by (own_ch (own_c1 p0))) (own_by (own_ch (own_c2 p0))) (own_by (own_ch (own_c3 p0))) (own_by (own_ch kx))))]))
                        refine OGo.step (F' := T46.setTop (mkF m 305 #[.val (.int p0), .val (.int p1), .val (.int p2), .val (.int (own_c0 p0)), .val (.int (own_c1 p0)), .val (.int (own_c2 p0)), .val (.int (own_c3 p0)), .val (.ref b1), .val (.int (own_cn p2)), .val (.int (((p2.toUInt32 >>> ((3 : Int32) &&& 31).toUInt32).toInt32) &&& (3 : Int32))), .val (.ref nm), .val (.int kx), .val (.int (1 : Int32)), .val (.int (3 : Int32))] [(.int (1 : Int32))])) (fun t kt => ?_) ?_
                        · show Steps p.tables e below (T46.setTop (mkF m 295 #[.val (.int p0), .val (.int p1), .val (.int p2), .val (.int (own_c0 p0)), .val (.int (own_c1 p0)), .val (.int (own_c2 p0)), .val (.int (own_c3 p0)), .val (.ref b1), .val (.int (own_cn p2)), .val (.int (((p2.toUInt32 >>> ((3 : Int32) &&& 31).toUInt32).toInt32) &&& (3 : Int32))), .val (.ref nm), .val (.int kx), .val (.int (1 : Int32)), .val (.int (3 : Int32))] [(.int (f6 (own_cn p2) nm b2_r b4_r b6_r b8_r (own_by (own_ch (own_c0 p0))) (own_by (own_ch (own_c1 p0))) (own_by (own_ch (own_c2 p0))) (own_by (own_ch (own_c3 p0))) (own_by (own_ch kx))))])) t
                          refine XS.iload X46.here hx rfl (hb hby at_295) rfl ?_
                          refine XS.icmpNo X46.here hx rfl (hb hby at_297) rfl (teq (by rw [own_fin _ (own_c0 p0) (own_c1 p0) (own_c2 p0) (own_c3 p0) kx _ _ _ _ _ _ _ _ _ _ (own_e _ _ _ _ (own_r0 _) hkx hal0) (own_e _ _ _ _ (own_r1 _) hkx hal1) (own_e _ _ _ _ (own_r2 _) hkx hal2) (own_e _ _ _ _ (own_r3 _) hkx hal3) (own_cnt _), own_exp, if_neg (fun q => hc223 q.2), if_neg (fun q => hc242 q.2), if_neg (fun q => hc261 q.2), if_pos ⟨hc273, hc280⟩])).2 ?_
                          refine XS.iconst X46.here hx rfl (hb hby at_300) ?_
                          refine XS.goto X46.here hx rfl (pc0 := 301) (pc' := 305) rfl (hb hby at_301) (by decide) (by decide) ?_
                          exact kt
                        refine OGo.retZ X46 hx hlk (t := .boolean) (z' := (1 : Int32)) hret (by simp) (hb hby at_305) rfl ?_ (by decide) (by decide)
                        show Q0 Z p0 p1 p2 w_high w_cache w_COMPACT_STRINGS h0 n0 _ T46.heap _
                        rw [e46]
                        exact ⟨rfl, N46, KC9⟩
                      · refine OGo.step (F' := T9.setTop (mkF m 286 #[.val (.int p0), .val (.int p1), .val (.int p2), .val (.int (own_c0 p0)), .val (.int (own_c1 p0)), .val (.int (own_c2 p0)), .val (.int (own_c3 p0)), .val (.ref b1), .val (.int (own_cn p2)), .val (.int (((p2.toUInt32 >>> ((3 : Int32) &&& 31).toUInt32).toInt32) &&& (3 : Int32))), .val (.ref nm), .val (.int kx), .val (.int (1 : Int32)), .val (.int (-1 : Int32))] [])) (fun t kt => ?_) ?_
                        · show Steps p.tables e below (T9.setTop (mkF m 280 #[.val (.int p0), .val (.int p1), .val (.int p2), .val (.int (own_c0 p0)), .val (.int (own_c1 p0)), .val (.int (own_c2 p0)), .val (.int (own_c3 p0)), .val (.ref b1), .val (.int (own_cn p2)), .val (.int (((p2.toUInt32 >>> ((3 : Int32) &&& 31).toUInt32).toInt32) &&& (3 : Int32))), .val (.ref nm), .val (.int kx), .val (.int (1 : Int32)), .val (.int (-1 : Int32))] [(.int kx), (.int (own_c3 p0))])) t
                          refine XS.icmpYes X9.here hx rfl (pc0 := 280) (pc' := 286) rfl (hb hby at_280) rfl (feq hc280).2 (by decide) (by decide) ?_
                          exact kt
                        refine OGo.step (F' := T9.setTop (mkF m 292 #[.val (.int p0), .val (.int p1), .val (.int p2), .val (.int (own_c0 p0)), .val (.int (own_c1 p0)), .val (.int (own_c2 p0)), .val (.int (own_c3 p0)), .val (.ref b1), .val (.int (own_cn p2)), .val (.int (((p2.toUInt32 >>> ((3 : Int32) &&& 31).toUInt32).toInt32) &&& (3 : Int32))), .val (.ref nm), .val (.int kx), .val (.int (1 : Int32)), .val (.int (-1 : Int32))] [(.ref nm), (.int (own_cn p2)), (.ref b1)])) (fun t kt => ?_) ?_
                        · show Steps p.tables e below (T9.setTop (mkF m 286 #[.val (.int p0), .val (.int p1), .val (.int p2), .val (.int (own_c0 p0)), .val (.int (own_c1 p0)), .val (.int (own_c2 p0)), .val (.int (own_c3 p0)), .val (.ref b1), .val (.int (own_cn p2)), .val (.int (((p2.toUInt32 >>> ((3 : Int32) &&& 31).toUInt32).toInt32) &&& (3 : Int32))), .val (.ref nm), .val (.int kx), .val (.int (1 : Int32)), .val (.int (-1 : Int32))] [])) t
                          refine XS.aload X9.here hx rfl (hb hby at_286) rfl rfl ?_
                          refine XS.iload X9.here hx rfl (hb hby at_288) rfl ?_
                          refine XS.aload X9.here hx rfl (hb hby at_290) rfl rfl ?_
                          exact kt
                        refine OGo.callS X9 hx hZ (y := (⟨"com/example/kette/kette/JsonObject", "walk", "([Ljava/lang/String;ILjava/lang/Object;)I"⟩ : MethodName)) hown (own_wd hw 28 rfl) (own_wd hw 29 rfl) (own_wd hw 30 rfl) (own_wd hw 31 rfl) (by decide) (rm6 l Z az hw [] b1 (own_cn p2) nm k1 b2_r b4_r b6_r b8_r b2_t b4_t b6_t b8_t (own_by (own_ch (own_c0 p0))) (own_by (own_ch (own_c1 p0))) (own_by (own_ch (own_c2 p0))) (own_by (own_ch (own_c3 p0))) tn (own_by (own_ch kx)) w_COMPACT_STRINGS h9 n0 (Nat.le_trans Z0 KC9.1) V9 Z10_5 Z10_6 Z10_7 Z10_8 Z10_9 Z10_10 Z10_11 Z10_12 Z10_13 Z10_14 Z10_15 Z10_16 Z10_17 Z10_18 Z10_19 Z10_20 E_nm Fv_nm Fc_nm O_tn hC (own_cnt _) Z10_4) (W := 0) (by decide) (by decide) (g := (mkF m 292 #[.val (.int p0), .val (.int p1), .val (.int p2), .val (.int (own_c0 p0)), .val (.int (own_c1 p0)), .val (.int (own_c2 p0)), .val (.int (own_c3 p0)), .val (.ref b1), .val (.int (own_cn p2)), .val (.int (((p2.toUInt32 >>> ((3 : Int32) &&& 31).toUInt32).toInt32) &&& (3 : Int32))), .val (.ref nm), .val (.int kx), .val (.int (1 : Int32)), .val (.int (-1 : Int32))] [(.ref nm), (.int (own_cn p2)), (.ref b1)])) rfl (by rw [hml]; rfl) (argsL := [(.ref b1), (.int (own_cn p2)), (.ref nm)]) (rest := []) (lenOf pd_0_1 rfl) rfl (by show 2 * 0 + _ ≤ _; exact Nat.le_of_eq rfl) (hb hby at_292) rfl e9 (by decide) (by decide) ?_
                        rintro _ T47 L47 X47 ⟨rfl, Nq47, e47⟩
                        have N47 := Fr.app N9 Nq47
                        show OGo _ _ _ _ _ _ _ (T47.setTop (mkF m 295 #[.val (.int p0), .val (.int p1), .val (.int p2), .val (.int (own_c0 p0)), .val (.int (own_c1 p0)), .val (.int (own_c2 p0)), .val (.int (own_c3 p0)), .val (.ref b1), .val (.int (own_cn p2)), .val (.int (((p2.toUInt32 >>> ((3 : Int32) &&& 31).toUInt32).toInt32) &&& (3 : Int32))), .val (.ref nm), .val (.int kx), .val (.int (1 : Int32)), .val (.int (-1 : Int32))] [(.int (f6 (own_cn p2) nm b2_r b4_r b6_r b8_r (own_by (own_ch (own_c0 p0))) (own_by (own_ch (own_c1 p0))) (own_by (own_ch (own_c2 p0))) (own_by (own_ch (own_c3 p0))) (own_by (own_ch kx))))]))
                        refine OGo.step (F' := T47.setTop (mkF m 305 #[.val (.int p0), .val (.int p1), .val (.int p2), .val (.int (own_c0 p0)), .val (.int (own_c1 p0)), .val (.int (own_c2 p0)), .val (.int (own_c3 p0)), .val (.ref b1), .val (.int (own_cn p2)), .val (.int (((p2.toUInt32 >>> ((3 : Int32) &&& 31).toUInt32).toInt32) &&& (3 : Int32))), .val (.ref nm), .val (.int kx), .val (.int (1 : Int32)), .val (.int (-1 : Int32))] [(.int (1 : Int32))])) (fun t kt => ?_) ?_
                        · show Steps p.tables e below (T47.setTop (mkF m 295 #[.val (.int p0), .val (.int p1), .val (.int p2), .val (.int (own_c0 p0)), .val (.int (own_c1 p0)), .val (.int (own_c2 p0)), .val (.int (own_c3 p0)), .val (.ref b1), .val (.int (own_cn p2)), .val (.int (((p2.toUInt32 >>> ((3 : Int32) &&& 31).toUInt32).toInt32) &&& (3 : Int32))), .val (.ref nm), .val (.int kx), .val (.int (1 : Int32)), .val (.int (-1 : Int32))] [(.int (f6 (own_cn p2) nm b2_r b4_r b6_r b8_r (own_by (own_ch (own_c0 p0))) (own_by (own_ch (own_c1 p0))) (own_by (own_ch (own_c2 p0))) (own_by (own_ch (own_c3 p0))) (own_by (own_ch kx))))])) t
                          refine XS.iload X47.here hx rfl (hb hby at_295) rfl ?_
                          refine XS.icmpNo X47.here hx rfl (hb hby at_297) rfl (teq (by rw [own_fin _ (own_c0 p0) (own_c1 p0) (own_c2 p0) (own_c3 p0) kx _ _ _ _ _ _ _ _ _ _ (own_e _ _ _ _ (own_r0 _) hkx hal0) (own_e _ _ _ _ (own_r1 _) hkx hal1) (own_e _ _ _ _ (own_r2 _) hkx hal2) (own_e _ _ _ _ (own_r3 _) hkx hal3) (own_cnt _), own_exp, if_neg (fun q => hc223 q.2), if_neg (fun q => hc242 q.2), if_neg (fun q => hc261 q.2), if_neg (fun q => hc280 q.2)])).2 ?_
                          refine XS.iconst X47.here hx rfl (hb hby at_300) ?_
                          refine XS.goto X47.here hx rfl (pc0 := 301) (pc' := 305) rfl (hb hby at_301) (by decide) (by decide) ?_
                          exact kt
                        refine OGo.retZ X47 hx hlk (t := .boolean) (z' := (1 : Int32)) hret (by simp) (hb hby at_305) rfl ?_ (by decide) (by decide)
                        show Q0 Z p0 p1 p2 w_high w_cache w_COMPACT_STRINGS h0 n0 _ T47.heap _
                        rw [e47]
                        exact ⟨rfl, N47, KC9⟩
                    · refine OGo.step (F' := T9.setTop (mkF m 286 #[.val (.int p0), .val (.int p1), .val (.int p2), .val (.int (own_c0 p0)), .val (.int (own_c1 p0)), .val (.int (own_c2 p0)), .val (.int (own_c3 p0)), .val (.ref b1), .val (.int (own_cn p2)), .val (.int (((p2.toUInt32 >>> ((3 : Int32) &&& 31).toUInt32).toInt32) &&& (3 : Int32))), .val (.ref nm), .val (.int kx), .val (.int (1 : Int32)), .val (.int (-1 : Int32))] [])) (fun t kt => ?_) ?_
                      · show Steps p.tables e below (T9.setTop (mkF m 273 #[.val (.int p0), .val (.int p1), .val (.int p2), .val (.int (own_c0 p0)), .val (.int (own_c1 p0)), .val (.int (own_c2 p0)), .val (.int (own_c3 p0)), .val (.ref b1), .val (.int (own_cn p2)), .val (.int (((p2.toUInt32 >>> ((3 : Int32) &&& 31).toUInt32).toInt32) &&& (3 : Int32))), .val (.ref nm), .val (.int kx), .val (.int (1 : Int32)), .val (.int (-1 : Int32))] [(.int (3 : Int32)), (.int (own_cn p2))])) t
                        refine XS.icmpYes X9.here hx rfl (pc0 := 273) (pc' := 286) rfl (hb hby at_273) rfl (flt hc273).2.2.2 (by decide) (by decide) ?_
                        exact kt
                      refine OGo.step (F' := T9.setTop (mkF m 292 #[.val (.int p0), .val (.int p1), .val (.int p2), .val (.int (own_c0 p0)), .val (.int (own_c1 p0)), .val (.int (own_c2 p0)), .val (.int (own_c3 p0)), .val (.ref b1), .val (.int (own_cn p2)), .val (.int (((p2.toUInt32 >>> ((3 : Int32) &&& 31).toUInt32).toInt32) &&& (3 : Int32))), .val (.ref nm), .val (.int kx), .val (.int (1 : Int32)), .val (.int (-1 : Int32))] [(.ref nm), (.int (own_cn p2)), (.ref b1)])) (fun t kt => ?_) ?_
                      · show Steps p.tables e below (T9.setTop (mkF m 286 #[.val (.int p0), .val (.int p1), .val (.int p2), .val (.int (own_c0 p0)), .val (.int (own_c1 p0)), .val (.int (own_c2 p0)), .val (.int (own_c3 p0)), .val (.ref b1), .val (.int (own_cn p2)), .val (.int (((p2.toUInt32 >>> ((3 : Int32) &&& 31).toUInt32).toInt32) &&& (3 : Int32))), .val (.ref nm), .val (.int kx), .val (.int (1 : Int32)), .val (.int (-1 : Int32))] [])) t
                        refine XS.aload X9.here hx rfl (hb hby at_286) rfl rfl ?_
                        refine XS.iload X9.here hx rfl (hb hby at_288) rfl ?_
                        refine XS.aload X9.here hx rfl (hb hby at_290) rfl rfl ?_
                        exact kt
                      refine OGo.callS X9 hx hZ (y := (⟨"com/example/kette/kette/JsonObject", "walk", "([Ljava/lang/String;ILjava/lang/Object;)I"⟩ : MethodName)) hown (own_wd hw 28 rfl) (own_wd hw 29 rfl) (own_wd hw 30 rfl) (own_wd hw 31 rfl) (by decide) (rm6 l Z az hw [] b1 (own_cn p2) nm k1 b2_r b4_r b6_r b8_r b2_t b4_t b6_t b8_t (own_by (own_ch (own_c0 p0))) (own_by (own_ch (own_c1 p0))) (own_by (own_ch (own_c2 p0))) (own_by (own_ch (own_c3 p0))) tn (own_by (own_ch kx)) w_COMPACT_STRINGS h9 n0 (Nat.le_trans Z0 KC9.1) V9 Z10_5 Z10_6 Z10_7 Z10_8 Z10_9 Z10_10 Z10_11 Z10_12 Z10_13 Z10_14 Z10_15 Z10_16 Z10_17 Z10_18 Z10_19 Z10_20 E_nm Fv_nm Fc_nm O_tn hC (own_cnt _) Z10_4) (W := 0) (by decide) (by decide) (g := (mkF m 292 #[.val (.int p0), .val (.int p1), .val (.int p2), .val (.int (own_c0 p0)), .val (.int (own_c1 p0)), .val (.int (own_c2 p0)), .val (.int (own_c3 p0)), .val (.ref b1), .val (.int (own_cn p2)), .val (.int (((p2.toUInt32 >>> ((3 : Int32) &&& 31).toUInt32).toInt32) &&& (3 : Int32))), .val (.ref nm), .val (.int kx), .val (.int (1 : Int32)), .val (.int (-1 : Int32))] [(.ref nm), (.int (own_cn p2)), (.ref b1)])) rfl (by rw [hml]; rfl) (argsL := [(.ref b1), (.int (own_cn p2)), (.ref nm)]) (rest := []) (lenOf pd_0_1 rfl) rfl (by show 2 * 0 + _ ≤ _; exact Nat.le_of_eq rfl) (hb hby at_292) rfl e9 (by decide) (by decide) ?_
                      rintro _ T48 L48 X48 ⟨rfl, Nq48, e48⟩
                      have N48 := Fr.app N9 Nq48
                      show OGo _ _ _ _ _ _ _ (T48.setTop (mkF m 295 #[.val (.int p0), .val (.int p1), .val (.int p2), .val (.int (own_c0 p0)), .val (.int (own_c1 p0)), .val (.int (own_c2 p0)), .val (.int (own_c3 p0)), .val (.ref b1), .val (.int (own_cn p2)), .val (.int (((p2.toUInt32 >>> ((3 : Int32) &&& 31).toUInt32).toInt32) &&& (3 : Int32))), .val (.ref nm), .val (.int kx), .val (.int (1 : Int32)), .val (.int (-1 : Int32))] [(.int (f6 (own_cn p2) nm b2_r b4_r b6_r b8_r (own_by (own_ch (own_c0 p0))) (own_by (own_ch (own_c1 p0))) (own_by (own_ch (own_c2 p0))) (own_by (own_ch (own_c3 p0))) (own_by (own_ch kx))))]))
                      refine OGo.step (F' := T48.setTop (mkF m 305 #[.val (.int p0), .val (.int p1), .val (.int p2), .val (.int (own_c0 p0)), .val (.int (own_c1 p0)), .val (.int (own_c2 p0)), .val (.int (own_c3 p0)), .val (.ref b1), .val (.int (own_cn p2)), .val (.int (((p2.toUInt32 >>> ((3 : Int32) &&& 31).toUInt32).toInt32) &&& (3 : Int32))), .val (.ref nm), .val (.int kx), .val (.int (1 : Int32)), .val (.int (-1 : Int32))] [(.int (1 : Int32))])) (fun t kt => ?_) ?_
                      · show Steps p.tables e below (T48.setTop (mkF m 295 #[.val (.int p0), .val (.int p1), .val (.int p2), .val (.int (own_c0 p0)), .val (.int (own_c1 p0)), .val (.int (own_c2 p0)), .val (.int (own_c3 p0)), .val (.ref b1), .val (.int (own_cn p2)), .val (.int (((p2.toUInt32 >>> ((3 : Int32) &&& 31).toUInt32).toInt32) &&& (3 : Int32))), .val (.ref nm), .val (.int kx), .val (.int (1 : Int32)), .val (.int (-1 : Int32))] [(.int (f6 (own_cn p2) nm b2_r b4_r b6_r b8_r (own_by (own_ch (own_c0 p0))) (own_by (own_ch (own_c1 p0))) (own_by (own_ch (own_c2 p0))) (own_by (own_ch (own_c3 p0))) (own_by (own_ch kx))))])) t
                        refine XS.iload X48.here hx rfl (hb hby at_295) rfl ?_
                        refine XS.icmpNo X48.here hx rfl (hb hby at_297) rfl (teq (by rw [own_fin _ (own_c0 p0) (own_c1 p0) (own_c2 p0) (own_c3 p0) kx _ _ _ _ _ _ _ _ _ _ (own_e _ _ _ _ (own_r0 _) hkx hal0) (own_e _ _ _ _ (own_r1 _) hkx hal1) (own_e _ _ _ _ (own_r2 _) hkx hal2) (own_e _ _ _ _ (own_r3 _) hkx hal3) (own_cnt _), own_exp, if_neg (fun q => hc223 q.2), if_neg (fun q => hc242 q.2), if_neg (fun q => hc261 q.2), if_neg (fun q => hc273 q.1)])).2 ?_
                        refine XS.iconst X48.here hx rfl (hb hby at_300) ?_
                        refine XS.goto X48.here hx rfl (pc0 := 301) (pc' := 305) rfl (hb hby at_301) (by decide) (by decide) ?_
                        exact kt
                      refine OGo.retZ X48 hx hlk (t := .boolean) (z' := (1 : Int32)) hret (by simp) (hb hby at_305) rfl ?_ (by decide) (by decide)
                      show Q0 Z p0 p1 p2 w_high w_cache w_COMPACT_STRINGS h0 n0 _ T48.heap _
                      rw [e48]
                      exact ⟨rfl, N48, KC9⟩
                · refine OGo.step (F' := T9.setTop (mkF m 270 #[.val (.int p0), .val (.int p1), .val (.int p2), .val (.int (own_c0 p0)), .val (.int (own_c1 p0)), .val (.int (own_c2 p0)), .val (.int (own_c3 p0)), .val (.ref b1), .val (.int (own_cn p2)), .val (.int (((p2.toUInt32 >>> ((3 : Int32) &&& 31).toUInt32).toInt32) &&& (3 : Int32))), .val (.ref nm), .val (.int kx), .val (.int (1 : Int32)), .val (.int (-1 : Int32))] [])) (fun t kt => ?_) ?_
                  · show Steps p.tables e below (T9.setTop (mkF m 254 #[.val (.int p0), .val (.int p1), .val (.int p2), .val (.int (own_c0 p0)), .val (.int (own_c1 p0)), .val (.int (own_c2 p0)), .val (.int (own_c3 p0)), .val (.ref b1), .val (.int (own_cn p2)), .val (.int (((p2.toUInt32 >>> ((3 : Int32) &&& 31).toUInt32).toInt32) &&& (3 : Int32))), .val (.ref nm), .val (.int kx), .val (.int (1 : Int32)), .val (.int (-1 : Int32))] [(.int (2 : Int32)), (.int (own_cn p2))])) t
                    refine XS.icmpYes X9.here hx rfl (pc0 := 254) (pc' := 270) rfl (hb hby at_254) rfl (flt hc254).2.2.2 (by decide) (by decide) ?_
                    exact kt
                  refine OGo.step (F' := T9.setTop (mkF m 273 #[.val (.int p0), .val (.int p1), .val (.int p2), .val (.int (own_c0 p0)), .val (.int (own_c1 p0)), .val (.int (own_c2 p0)), .val (.int (own_c3 p0)), .val (.ref b1), .val (.int (own_cn p2)), .val (.int (((p2.toUInt32 >>> ((3 : Int32) &&& 31).toUInt32).toInt32) &&& (3 : Int32))), .val (.ref nm), .val (.int kx), .val (.int (1 : Int32)), .val (.int (-1 : Int32))] [(.int (3 : Int32)), (.int (own_cn p2))])) (fun t kt => ?_) ?_
                  · show Steps p.tables e below (T9.setTop (mkF m 270 #[.val (.int p0), .val (.int p1), .val (.int p2), .val (.int (own_c0 p0)), .val (.int (own_c1 p0)), .val (.int (own_c2 p0)), .val (.int (own_c3 p0)), .val (.ref b1), .val (.int (own_cn p2)), .val (.int (((p2.toUInt32 >>> ((3 : Int32) &&& 31).toUInt32).toInt32) &&& (3 : Int32))), .val (.ref nm), .val (.int kx), .val (.int (1 : Int32)), .val (.int (-1 : Int32))] [])) t
                    refine XS.iload X9.here hx rfl (hb hby at_270) rfl ?_
                    refine XS.iconst X9.here hx rfl (hb hby at_272) ?_
                    exact kt
                  by_cases hc273 : (3 : Int32) < (own_cn p2)
                  · refine OGo.step (F' := T9.setTop (mkF m 276 #[.val (.int p0), .val (.int p1), .val (.int p2), .val (.int (own_c0 p0)), .val (.int (own_c1 p0)), .val (.int (own_c2 p0)), .val (.int (own_c3 p0)), .val (.ref b1), .val (.int (own_cn p2)), .val (.int (((p2.toUInt32 >>> ((3 : Int32) &&& 31).toUInt32).toInt32) &&& (3 : Int32))), .val (.ref nm), .val (.int kx), .val (.int (1 : Int32)), .val (.int (-1 : Int32))] [])) (fun t kt => ?_) ?_
                    · show Steps p.tables e below (T9.setTop (mkF m 273 #[.val (.int p0), .val (.int p1), .val (.int p2), .val (.int (own_c0 p0)), .val (.int (own_c1 p0)), .val (.int (own_c2 p0)), .val (.int (own_c3 p0)), .val (.ref b1), .val (.int (own_cn p2)), .val (.int (((p2.toUInt32 >>> ((3 : Int32) &&& 31).toUInt32).toInt32) &&& (3 : Int32))), .val (.ref nm), .val (.int kx), .val (.int (1 : Int32)), .val (.int (-1 : Int32))] [(.int (3 : Int32)), (.int (own_cn p2))])) t
                      refine XS.icmpNo X9.here hx rfl (hb hby at_273) rfl (tlt hc273).2.2.2 ?_
                      exact kt
                    refine OGo.step (F' := T9.setTop (mkF m 280 #[.val (.int p0), .val (.int p1), .val (.int p2), .val (.int (own_c0 p0)), .val (.int (own_c1 p0)), .val (.int (own_c2 p0)), .val (.int (own_c3 p0)), .val (.ref b1), .val (.int (own_cn p2)), .val (.int (((p2.toUInt32 >>> ((3 : Int32) &&& 31).toUInt32).toInt32) &&& (3 : Int32))), .val (.ref nm), .val (.int kx), .val (.int (1 : Int32)), .val (.int (-1 : Int32))] [(.int kx), (.int (own_c3 p0))])) (fun t kt => ?_) ?_
                    · show Steps p.tables e below (T9.setTop (mkF m 276 #[.val (.int p0), .val (.int p1), .val (.int p2), .val (.int (own_c0 p0)), .val (.int (own_c1 p0)), .val (.int (own_c2 p0)), .val (.int (own_c3 p0)), .val (.ref b1), .val (.int (own_cn p2)), .val (.int (((p2.toUInt32 >>> ((3 : Int32) &&& 31).toUInt32).toInt32) &&& (3 : Int32))), .val (.ref nm), .val (.int kx), .val (.int (1 : Int32)), .val (.int (-1 : Int32))] [])) t
                      refine XS.iload X9.here hx rfl (hb hby at_276) rfl ?_
                      refine XS.iload X9.here hx rfl (hb hby at_278) rfl ?_
                      exact kt
                    by_cases hc280 : (own_c3 p0) = kx
                    · refine OGo.step (F' := T9.setTop (mkF m 283 #[.val (.int p0), .val (.int p1), .val (.int p2), .val (.int (own_c0 p0)), .val (.int (own_c1 p0)), .val (.int (own_c2 p0)), .val (.int (own_c3 p0)), .val (.ref b1), .val (.int (own_cn p2)), .val (.int (((p2.toUInt32 >>> ((3 : Int32) &&& 31).toUInt32).toInt32) &&& (3 : Int32))), .val (.ref nm), .val (.int kx), .val (.int (1 : Int32)), .val (.int (-1 : Int32))] [])) (fun t kt => ?_) ?_
                      · show Steps p.tables e below (T9.setTop (mkF m 280 #[.val (.int p0), .val (.int p1), .val (.int p2), .val (.int (own_c0 p0)), .val (.int (own_c1 p0)), .val (.int (own_c2 p0)), .val (.int (own_c3 p0)), .val (.ref b1), .val (.int (own_cn p2)), .val (.int (((p2.toUInt32 >>> ((3 : Int32) &&& 31).toUInt32).toInt32) &&& (3 : Int32))), .val (.ref nm), .val (.int kx), .val (.int (1 : Int32)), .val (.int (-1 : Int32))] [(.int kx), (.int (own_c3 p0))])) t
                        refine XS.icmpNo X9.here hx rfl (hb hby at_280) rfl (teq hc280).2 ?_
                        exact kt
                      refine OGo.step (F' := T9.setTop (mkF m 292 #[.val (.int p0), .val (.int p1), .val (.int p2), .val (.int (own_c0 p0)), .val (.int (own_c1 p0)), .val (.int (own_c2 p0)), .val (.int (own_c3 p0)), .val (.ref b1), .val (.int (own_cn p2)), .val (.int (((p2.toUInt32 >>> ((3 : Int32) &&& 31).toUInt32).toInt32) &&& (3 : Int32))), .val (.ref nm), .val (.int kx), .val (.int (1 : Int32)), .val (.int (3 : Int32))] [(.ref nm), (.int (own_cn p2)), (.ref b1)])) (fun t kt => ?_) ?_
                      · show Steps p.tables e below (T9.setTop (mkF m 283 #[.val (.int p0), .val (.int p1), .val (.int p2), .val (.int (own_c0 p0)), .val (.int (own_c1 p0)), .val (.int (own_c2 p0)), .val (.int (own_c3 p0)), .val (.ref b1), .val (.int (own_cn p2)), .val (.int (((p2.toUInt32 >>> ((3 : Int32) &&& 31).toUInt32).toInt32) &&& (3 : Int32))), .val (.ref nm), .val (.int kx), .val (.int (1 : Int32)), .val (.int (-1 : Int32))] [])) t
                        refine XS.iconst X9.here hx rfl (hb hby at_283) ?_
                        refine XS.istore X9.here hx rfl (hb hby at_284) rfl (l' := #[.val (.int p0), .val (.int p1), .val (.int p2), .val (.int (own_c0 p0)), .val (.int (own_c1 p0)), .val (.int (own_c2 p0)), .val (.int (own_c3 p0)), .val (.ref b1), .val (.int (own_cn p2)), .val (.int (((p2.toUInt32 >>> ((3 : Int32) &&& 31).toUInt32).toInt32) &&& (3 : Int32))), .val (.ref nm), .val (.int kx), .val (.int (1 : Int32)), .val (.int (3 : Int32))]) rfl ?_
                        refine XS.aload X9.here hx rfl (hb hby at_286) rfl rfl ?_
                        refine XS.iload X9.here hx rfl (hb hby at_288) rfl ?_
                        refine XS.aload X9.here hx rfl (hb hby at_290) rfl rfl ?_
                        exact kt
                      refine OGo.callS X9 hx hZ (y := (⟨"com/example/kette/kette/JsonObject", "walk", "([Ljava/lang/String;ILjava/lang/Object;)I"⟩ : MethodName)) hown (own_wd hw 28 rfl) (own_wd hw 29 rfl) (own_wd hw 30 rfl) (own_wd hw 31 rfl) (by decide) (rm6 l Z az hw [] b1 (own_cn p2) nm k1 b2_r b4_r b6_r b8_r b2_t b4_t b6_t b8_t (own_by (own_ch (own_c0 p0))) (own_by (own_ch (own_c1 p0))) (own_by (own_ch (own_c2 p0))) (own_by (own_ch (own_c3 p0))) tn (own_by (own_ch kx)) w_COMPACT_STRINGS h9 n0 (Nat.le_trans Z0 KC9.1) V9 Z10_5 Z10_6 Z10_7 Z10_8 Z10_9 Z10_10 Z10_11 Z10_12 Z10_13 Z10_14 Z10_15 Z10_16 Z10_17 Z10_18 Z10_19 Z10_20 E_nm Fv_nm Fc_nm O_tn hC (own_cnt _) Z10_4) (W := 0) (by decide) (by decide) (g := (mkF m 292 #[.val (.int p0), .val (.int p1), .val (.int p2), .val (.int (own_c0 p0)), .val (.int (own_c1 p0)), .val (.int (own_c2 p0)), .val (.int (own_c3 p0)), .val (.ref b1), .val (.int (own_cn p2)), .val (.int (((p2.toUInt32 >>> ((3 : Int32) &&& 31).toUInt32).toInt32) &&& (3 : Int32))), .val (.ref nm), .val (.int kx), .val (.int (1 : Int32)), .val (.int (3 : Int32))] [(.ref nm), (.int (own_cn p2)), (.ref b1)])) rfl (by rw [hml]; rfl) (argsL := [(.ref b1), (.int (own_cn p2)), (.ref nm)]) (rest := []) (lenOf pd_0_1 rfl) rfl (by show 2 * 0 + _ ≤ _; exact Nat.le_of_eq rfl) (hb hby at_292) rfl e9 (by decide) (by decide) ?_
                      rintro _ T49 L49 X49 ⟨rfl, Nq49, e49⟩
                      have N49 := Fr.app N9 Nq49
                      show OGo _ _ _ _ _ _ _ (T49.setTop (mkF m 295 #[.val (.int p0), .val (.int p1), .val (.int p2), .val (.int (own_c0 p0)), .val (.int (own_c1 p0)), .val (.int (own_c2 p0)), .val (.int (own_c3 p0)), .val (.ref b1), .val (.int (own_cn p2)), .val (.int (((p2.toUInt32 >>> ((3 : Int32) &&& 31).toUInt32).toInt32) &&& (3 : Int32))), .val (.ref nm), .val (.int kx), .val (.int (1 : Int32)), .val (.int (3 : Int32))] [(.int (f6 (own_cn p2) nm b2_r b4_r b6_r b8_r (own_by (own_ch (own_c0 p0))) (own_by (own_ch (own_c1 p0))) (own_by (own_ch (own_c2 p0))) (own_by (own_ch (own_c3 p0))) (own_by (own_ch kx))))]))
                      refine OGo.step (F' := T49.setTop (mkF m 305 #[.val (.int p0), .val (.int p1), .val (.int p2), .val (.int (own_c0 p0)), .val (.int (own_c1 p0)), .val (.int (own_c2 p0)), .val (.int (own_c3 p0)), .val (.ref b1), .val (.int (own_cn p2)), .val (.int (((p2.toUInt32 >>> ((3 : Int32) &&& 31).toUInt32).toInt32) &&& (3 : Int32))), .val (.ref nm), .val (.int kx), .val (.int (1 : Int32)), .val (.int (3 : Int32))] [(.int (1 : Int32))])) (fun t kt => ?_) ?_
                      · show Steps p.tables e below (T49.setTop (mkF m 295 #[.val (.int p0), .val (.int p1), .val (.int p2), .val (.int (own_c0 p0)), .val (.int (own_c1 p0)), .val (.int (own_c2 p0)), .val (.int (own_c3 p0)), .val (.ref b1), .val (.int (own_cn p2)), .val (.int (((p2.toUInt32 >>> ((3 : Int32) &&& 31).toUInt32).toInt32) &&& (3 : Int32))), .val (.ref nm), .val (.int kx), .val (.int (1 : Int32)), .val (.int (3 : Int32))] [(.int (f6 (own_cn p2) nm b2_r b4_r b6_r b8_r (own_by (own_ch (own_c0 p0))) (own_by (own_ch (own_c1 p0))) (own_by (own_ch (own_c2 p0))) (own_by (own_ch (own_c3 p0))) (own_by (own_ch kx))))])) t
                        refine XS.iload X49.here hx rfl (hb hby at_295) rfl ?_
                        refine XS.icmpNo X49.here hx rfl (hb hby at_297) rfl (teq (by rw [own_fin _ (own_c0 p0) (own_c1 p0) (own_c2 p0) (own_c3 p0) kx _ _ _ _ _ _ _ _ _ _ (own_e _ _ _ _ (own_r0 _) hkx hal0) (own_e _ _ _ _ (own_r1 _) hkx hal1) (own_e _ _ _ _ (own_r2 _) hkx hal2) (own_e _ _ _ _ (own_r3 _) hkx hal3) (own_cnt _), own_exp, if_neg (fun q => hc223 q.2), if_neg (fun q => hc242 q.2), if_neg (fun q => hc254 q.1), if_pos ⟨hc273, hc280⟩])).2 ?_
                        refine XS.iconst X49.here hx rfl (hb hby at_300) ?_
                        refine XS.goto X49.here hx rfl (pc0 := 301) (pc' := 305) rfl (hb hby at_301) (by decide) (by decide) ?_
                        exact kt
                      refine OGo.retZ X49 hx hlk (t := .boolean) (z' := (1 : Int32)) hret (by simp) (hb hby at_305) rfl ?_ (by decide) (by decide)
                      show Q0 Z p0 p1 p2 w_high w_cache w_COMPACT_STRINGS h0 n0 _ T49.heap _
                      rw [e49]
                      exact ⟨rfl, N49, KC9⟩
                    · refine OGo.step (F' := T9.setTop (mkF m 286 #[.val (.int p0), .val (.int p1), .val (.int p2), .val (.int (own_c0 p0)), .val (.int (own_c1 p0)), .val (.int (own_c2 p0)), .val (.int (own_c3 p0)), .val (.ref b1), .val (.int (own_cn p2)), .val (.int (((p2.toUInt32 >>> ((3 : Int32) &&& 31).toUInt32).toInt32) &&& (3 : Int32))), .val (.ref nm), .val (.int kx), .val (.int (1 : Int32)), .val (.int (-1 : Int32))] [])) (fun t kt => ?_) ?_
                      · show Steps p.tables e below (T9.setTop (mkF m 280 #[.val (.int p0), .val (.int p1), .val (.int p2), .val (.int (own_c0 p0)), .val (.int (own_c1 p0)), .val (.int (own_c2 p0)), .val (.int (own_c3 p0)), .val (.ref b1), .val (.int (own_cn p2)), .val (.int (((p2.toUInt32 >>> ((3 : Int32) &&& 31).toUInt32).toInt32) &&& (3 : Int32))), .val (.ref nm), .val (.int kx), .val (.int (1 : Int32)), .val (.int (-1 : Int32))] [(.int kx), (.int (own_c3 p0))])) t
                        refine XS.icmpYes X9.here hx rfl (pc0 := 280) (pc' := 286) rfl (hb hby at_280) rfl (feq hc280).2 (by decide) (by decide) ?_
                        exact kt
                      refine OGo.step (F' := T9.setTop (mkF m 292 #[.val (.int p0), .val (.int p1), .val (.int p2), .val (.int (own_c0 p0)), .val (.int (own_c1 p0)), .val (.int (own_c2 p0)), .val (.int (own_c3 p0)), .val (.ref b1), .val (.int (own_cn p2)), .val (.int (((p2.toUInt32 >>> ((3 : Int32) &&& 31).toUInt32).toInt32) &&& (3 : Int32))), .val (.ref nm), .val (.int kx), .val (.int (1 : Int32)), .val (.int (-1 : Int32))] [(.ref nm), (.int (own_cn p2)), (.ref b1)])) (fun t kt => ?_) ?_
                      · show Steps p.tables e below (T9.setTop (mkF m 286 #[.val (.int p0), .val (.int p1), .val (.int p2), .val (.int (own_c0 p0)), .val (.int (own_c1 p0)), .val (.int (own_c2 p0)), .val (.int (own_c3 p0)), .val (.ref b1), .val (.int (own_cn p2)), .val (.int (((p2.toUInt32 >>> ((3 : Int32) &&& 31).toUInt32).toInt32) &&& (3 : Int32))), .val (.ref nm), .val (.int kx), .val (.int (1 : Int32)), .val (.int (-1 : Int32))] [])) t
                        refine XS.aload X9.here hx rfl (hb hby at_286) rfl rfl ?_
                        refine XS.iload X9.here hx rfl (hb hby at_288) rfl ?_
                        refine XS.aload X9.here hx rfl (hb hby at_290) rfl rfl ?_
                        exact kt
                      refine OGo.callS X9 hx hZ (y := (⟨"com/example/kette/kette/JsonObject", "walk", "([Ljava/lang/String;ILjava/lang/Object;)I"⟩ : MethodName)) hown (own_wd hw 28 rfl) (own_wd hw 29 rfl) (own_wd hw 30 rfl) (own_wd hw 31 rfl) (by decide) (rm6 l Z az hw [] b1 (own_cn p2) nm k1 b2_r b4_r b6_r b8_r b2_t b4_t b6_t b8_t (own_by (own_ch (own_c0 p0))) (own_by (own_ch (own_c1 p0))) (own_by (own_ch (own_c2 p0))) (own_by (own_ch (own_c3 p0))) tn (own_by (own_ch kx)) w_COMPACT_STRINGS h9 n0 (Nat.le_trans Z0 KC9.1) V9 Z10_5 Z10_6 Z10_7 Z10_8 Z10_9 Z10_10 Z10_11 Z10_12 Z10_13 Z10_14 Z10_15 Z10_16 Z10_17 Z10_18 Z10_19 Z10_20 E_nm Fv_nm Fc_nm O_tn hC (own_cnt _) Z10_4) (W := 0) (by decide) (by decide) (g := (mkF m 292 #[.val (.int p0), .val (.int p1), .val (.int p2), .val (.int (own_c0 p0)), .val (.int (own_c1 p0)), .val (.int (own_c2 p0)), .val (.int (own_c3 p0)), .val (.ref b1), .val (.int (own_cn p2)), .val (.int (((p2.toUInt32 >>> ((3 : Int32) &&& 31).toUInt32).toInt32) &&& (3 : Int32))), .val (.ref nm), .val (.int kx), .val (.int (1 : Int32)), .val (.int (-1 : Int32))] [(.ref nm), (.int (own_cn p2)), (.ref b1)])) rfl (by rw [hml]; rfl) (argsL := [(.ref b1), (.int (own_cn p2)), (.ref nm)]) (rest := []) (lenOf pd_0_1 rfl) rfl (by show 2 * 0 + _ ≤ _; exact Nat.le_of_eq rfl) (hb hby at_292) rfl e9 (by decide) (by decide) ?_
                      rintro _ T50 L50 X50 ⟨rfl, Nq50, e50⟩
                      have N50 := Fr.app N9 Nq50
                      show OGo _ _ _ _ _ _ _ (T50.setTop (mkF m 295 #[.val (.int p0), .val (.int p1), .val (.int p2), .val (.int (own_c0 p0)), .val (.int (own_c1 p0)), .val (.int (own_c2 p0)), .val (.int (own_c3 p0)), .val (.ref b1), .val (.int (own_cn p2)), .val (.int (((p2.toUInt32 >>> ((3 : Int32) &&& 31).toUInt32).toInt32) &&& (3 : Int32))), .val (.ref nm), .val (.int kx), .val (.int (1 : Int32)), .val (.int (-1 : Int32))] [(.int (f6 (own_cn p2) nm b2_r b4_r b6_r b8_r (own_by (own_ch (own_c0 p0))) (own_by (own_ch (own_c1 p0))) (own_by (own_ch (own_c2 p0))) (own_by (own_ch (own_c3 p0))) (own_by (own_ch kx))))]))
                      refine OGo.step (F' := T50.setTop (mkF m 305 #[.val (.int p0), .val (.int p1), .val (.int p2), .val (.int (own_c0 p0)), .val (.int (own_c1 p0)), .val (.int (own_c2 p0)), .val (.int (own_c3 p0)), .val (.ref b1), .val (.int (own_cn p2)), .val (.int (((p2.toUInt32 >>> ((3 : Int32) &&& 31).toUInt32).toInt32) &&& (3 : Int32))), .val (.ref nm), .val (.int kx), .val (.int (1 : Int32)), .val (.int (-1 : Int32))] [(.int (1 : Int32))])) (fun t kt => ?_) ?_
                      · show Steps p.tables e below (T50.setTop (mkF m 295 #[.val (.int p0), .val (.int p1), .val (.int p2), .val (.int (own_c0 p0)), .val (.int (own_c1 p0)), .val (.int (own_c2 p0)), .val (.int (own_c3 p0)), .val (.ref b1), .val (.int (own_cn p2)), .val (.int (((p2.toUInt32 >>> ((3 : Int32) &&& 31).toUInt32).toInt32) &&& (3 : Int32))), .val (.ref nm), .val (.int kx), .val (.int (1 : Int32)), .val (.int (-1 : Int32))] [(.int (f6 (own_cn p2) nm b2_r b4_r b6_r b8_r (own_by (own_ch (own_c0 p0))) (own_by (own_ch (own_c1 p0))) (own_by (own_ch (own_c2 p0))) (own_by (own_ch (own_c3 p0))) (own_by (own_ch kx))))])) t
                        refine XS.iload X50.here hx rfl (hb hby at_295) rfl ?_
                        refine XS.icmpNo X50.here hx rfl (hb hby at_297) rfl (teq (by rw [own_fin _ (own_c0 p0) (own_c1 p0) (own_c2 p0) (own_c3 p0) kx _ _ _ _ _ _ _ _ _ _ (own_e _ _ _ _ (own_r0 _) hkx hal0) (own_e _ _ _ _ (own_r1 _) hkx hal1) (own_e _ _ _ _ (own_r2 _) hkx hal2) (own_e _ _ _ _ (own_r3 _) hkx hal3) (own_cnt _), own_exp, if_neg (fun q => hc223 q.2), if_neg (fun q => hc242 q.2), if_neg (fun q => hc254 q.1), if_neg (fun q => hc280 q.2)])).2 ?_
                        refine XS.iconst X50.here hx rfl (hb hby at_300) ?_
                        refine XS.goto X50.here hx rfl (pc0 := 301) (pc' := 305) rfl (hb hby at_301) (by decide) (by decide) ?_
                        exact kt
                      refine OGo.retZ X50 hx hlk (t := .boolean) (z' := (1 : Int32)) hret (by simp) (hb hby at_305) rfl ?_ (by decide) (by decide)
                      show Q0 Z p0 p1 p2 w_high w_cache w_COMPACT_STRINGS h0 n0 _ T50.heap _
                      rw [e50]
                      exact ⟨rfl, N50, KC9⟩
                  · refine OGo.step (F' := T9.setTop (mkF m 286 #[.val (.int p0), .val (.int p1), .val (.int p2), .val (.int (own_c0 p0)), .val (.int (own_c1 p0)), .val (.int (own_c2 p0)), .val (.int (own_c3 p0)), .val (.ref b1), .val (.int (own_cn p2)), .val (.int (((p2.toUInt32 >>> ((3 : Int32) &&& 31).toUInt32).toInt32) &&& (3 : Int32))), .val (.ref nm), .val (.int kx), .val (.int (1 : Int32)), .val (.int (-1 : Int32))] [])) (fun t kt => ?_) ?_
                    · show Steps p.tables e below (T9.setTop (mkF m 273 #[.val (.int p0), .val (.int p1), .val (.int p2), .val (.int (own_c0 p0)), .val (.int (own_c1 p0)), .val (.int (own_c2 p0)), .val (.int (own_c3 p0)), .val (.ref b1), .val (.int (own_cn p2)), .val (.int (((p2.toUInt32 >>> ((3 : Int32) &&& 31).toUInt32).toInt32) &&& (3 : Int32))), .val (.ref nm), .val (.int kx), .val (.int (1 : Int32)), .val (.int (-1 : Int32))] [(.int (3 : Int32)), (.int (own_cn p2))])) t
                      refine XS.icmpYes X9.here hx rfl (pc0 := 273) (pc' := 286) rfl (hb hby at_273) rfl (flt hc273).2.2.2 (by decide) (by decide) ?_
                      exact kt
                    refine OGo.step (F' := T9.setTop (mkF m 292 #[.val (.int p0), .val (.int p1), .val (.int p2), .val (.int (own_c0 p0)), .val (.int (own_c1 p0)), .val (.int (own_c2 p0)), .val (.int (own_c3 p0)), .val (.ref b1), .val (.int (own_cn p2)), .val (.int (((p2.toUInt32 >>> ((3 : Int32) &&& 31).toUInt32).toInt32) &&& (3 : Int32))), .val (.ref nm), .val (.int kx), .val (.int (1 : Int32)), .val (.int (-1 : Int32))] [(.ref nm), (.int (own_cn p2)), (.ref b1)])) (fun t kt => ?_) ?_
                    · show Steps p.tables e below (T9.setTop (mkF m 286 #[.val (.int p0), .val (.int p1), .val (.int p2), .val (.int (own_c0 p0)), .val (.int (own_c1 p0)), .val (.int (own_c2 p0)), .val (.int (own_c3 p0)), .val (.ref b1), .val (.int (own_cn p2)), .val (.int (((p2.toUInt32 >>> ((3 : Int32) &&& 31).toUInt32).toInt32) &&& (3 : Int32))), .val (.ref nm), .val (.int kx), .val (.int (1 : Int32)), .val (.int (-1 : Int32))] [])) t
                      refine XS.aload X9.here hx rfl (hb hby at_286) rfl rfl ?_
                      refine XS.iload X9.here hx rfl (hb hby at_288) rfl ?_
                      refine XS.aload X9.here hx rfl (hb hby at_290) rfl rfl ?_
                      exact kt
                    refine OGo.callS X9 hx hZ (y := (⟨"com/example/kette/kette/JsonObject", "walk", "([Ljava/lang/String;ILjava/lang/Object;)I"⟩ : MethodName)) hown (own_wd hw 28 rfl) (own_wd hw 29 rfl) (own_wd hw 30 rfl) (own_wd hw 31 rfl) (by decide) (rm6 l Z az hw [] b1 (own_cn p2) nm k1 b2_r b4_r b6_r b8_r b2_t b4_t b6_t b8_t (own_by (own_ch (own_c0 p0))) (own_by (own_ch (own_c1 p0))) (own_by (own_ch (own_c2 p0))) (own_by (own_ch (own_c3 p0))) tn (own_by (own_ch kx)) w_COMPACT_STRINGS h9 n0 (Nat.le_trans Z0 KC9.1) V9 Z10_5 Z10_6 Z10_7 Z10_8 Z10_9 Z10_10 Z10_11 Z10_12 Z10_13 Z10_14 Z10_15 Z10_16 Z10_17 Z10_18 Z10_19 Z10_20 E_nm Fv_nm Fc_nm O_tn hC (own_cnt _) Z10_4) (W := 0) (by decide) (by decide) (g := (mkF m 292 #[.val (.int p0), .val (.int p1), .val (.int p2), .val (.int (own_c0 p0)), .val (.int (own_c1 p0)), .val (.int (own_c2 p0)), .val (.int (own_c3 p0)), .val (.ref b1), .val (.int (own_cn p2)), .val (.int (((p2.toUInt32 >>> ((3 : Int32) &&& 31).toUInt32).toInt32) &&& (3 : Int32))), .val (.ref nm), .val (.int kx), .val (.int (1 : Int32)), .val (.int (-1 : Int32))] [(.ref nm), (.int (own_cn p2)), (.ref b1)])) rfl (by rw [hml]; rfl) (argsL := [(.ref b1), (.int (own_cn p2)), (.ref nm)]) (rest := []) (lenOf pd_0_1 rfl) rfl (by show 2 * 0 + _ ≤ _; exact Nat.le_of_eq rfl) (hb hby at_292) rfl e9 (by decide) (by decide) ?_
                    rintro _ T51 L51 X51 ⟨rfl, Nq51, e51⟩
                    have N51 := Fr.app N9 Nq51
                    show OGo _ _ _ _ _ _ _ (T51.setTop (mkF m 295 #[.val (.int p0), .val (.int p1), .val (.int p2), .val (.int (own_c0 p0)), .val (.int (own_c1 p0)), .val (.int (own_c2 p0)), .val (.int (own_c3 p0)), .val (.ref b1), .val (.int (own_cn p2)), .val (.int (((p2.toUInt32 >>> ((3 : Int32) &&& 31).toUInt32).toInt32) &&& (3 : Int32))), .val (.ref nm), .val (.int kx), .val (.int (1 : Int32)), .val (.int (-1 : Int32))] [(.int (f6 (own_cn p2) nm b2_r b4_r b6_r b8_r (own_by (own_ch (own_c0 p0))) (own_by (own_ch (own_c1 p0))) (own_by (own_ch (own_c2 p0))) (own_by (own_ch (own_c3 p0))) (own_by (own_ch kx))))]))
                    refine OGo.step (F' := T51.setTop (mkF m 305 #[.val (.int p0), .val (.int p1), .val (.int p2), .val (.int (own_c0 p0)), .val (.int (own_c1 p0)), .val (.int (own_c2 p0)), .val (.int (own_c3 p0)), .val (.ref b1), .val (.int (own_cn p2)), .val (.int (((p2.toUInt32 >>> ((3 : Int32) &&& 31).toUInt32).toInt32) &&& (3 : Int32))), .val (.ref nm), .val (.int kx), .val (.int (1 : Int32)), .val (.int (-1 : Int32))] [(.int (1 : Int32))])) (fun t kt => ?_) ?_
                    · show Steps p.tables e below (T51.setTop (mkF m 295 #[.val (.int p0), .val (.int p1), .val (.int p2), .val (.int (own_c0 p0)), .val (.int (own_c1 p0)), .val (.int (own_c2 p0)), .val (.int (own_c3 p0)), .val (.ref b1), .val (.int (own_cn p2)), .val (.int (((p2.toUInt32 >>> ((3 : Int32) &&& 31).toUInt32).toInt32) &&& (3 : Int32))), .val (.ref nm), .val (.int kx), .val (.int (1 : Int32)), .val (.int (-1 : Int32))] [(.int (f6 (own_cn p2) nm b2_r b4_r b6_r b8_r (own_by (own_ch (own_c0 p0))) (own_by (own_ch (own_c1 p0))) (own_by (own_ch (own_c2 p0))) (own_by (own_ch (own_c3 p0))) (own_by (own_ch kx))))])) t
                      refine XS.iload X51.here hx rfl (hb hby at_295) rfl ?_
                      refine XS.icmpNo X51.here hx rfl (hb hby at_297) rfl (teq (by rw [own_fin _ (own_c0 p0) (own_c1 p0) (own_c2 p0) (own_c3 p0) kx _ _ _ _ _ _ _ _ _ _ (own_e _ _ _ _ (own_r0 _) hkx hal0) (own_e _ _ _ _ (own_r1 _) hkx hal1) (own_e _ _ _ _ (own_r2 _) hkx hal2) (own_e _ _ _ _ (own_r3 _) hkx hal3) (own_cnt _), own_exp, if_neg (fun q => hc223 q.2), if_neg (fun q => hc242 q.2), if_neg (fun q => hc254 q.1), if_neg (fun q => hc273 q.1)])).2 ?_
                      refine XS.iconst X51.here hx rfl (hb hby at_300) ?_
                      refine XS.goto X51.here hx rfl (pc0 := 301) (pc' := 305) rfl (hb hby at_301) (by decide) (by decide) ?_
                      exact kt
                    refine OGo.retZ X51 hx hlk (t := .boolean) (z' := (1 : Int32)) hret (by simp) (hb hby at_305) rfl ?_ (by decide) (by decide)
                    show Q0 Z p0 p1 p2 w_high w_cache w_COMPACT_STRINGS h0 n0 _ T51.heap _
                    rw [e51]
                    exact ⟨rfl, N51, KC9⟩
            · refine OGo.step (F' := T9.setTop (mkF m 251 #[.val (.int p0), .val (.int p1), .val (.int p2), .val (.int (own_c0 p0)), .val (.int (own_c1 p0)), .val (.int (own_c2 p0)), .val (.int (own_c3 p0)), .val (.ref b1), .val (.int (own_cn p2)), .val (.int (((p2.toUInt32 >>> ((3 : Int32) &&& 31).toUInt32).toInt32) &&& (3 : Int32))), .val (.ref nm), .val (.int kx), .val (.int (1 : Int32)), .val (.int (-1 : Int32))] [])) (fun t kt => ?_) ?_
              · show Steps p.tables e below (T9.setTop (mkF m 235 #[.val (.int p0), .val (.int p1), .val (.int p2), .val (.int (own_c0 p0)), .val (.int (own_c1 p0)), .val (.int (own_c2 p0)), .val (.int (own_c3 p0)), .val (.ref b1), .val (.int (own_cn p2)), .val (.int (((p2.toUInt32 >>> ((3 : Int32) &&& 31).toUInt32).toInt32) &&& (3 : Int32))), .val (.ref nm), .val (.int kx), .val (.int (1 : Int32)), .val (.int (-1 : Int32))] [(.int (1 : Int32)), (.int (own_cn p2))])) t
                refine XS.icmpYes X9.here hx rfl (pc0 := 235) (pc' := 251) rfl (hb hby at_235) rfl (flt hc235).2.2.2 (by decide) (by decide) ?_
                exact kt
              refine OGo.step (F' := T9.setTop (mkF m 254 #[.val (.int p0), .val (.int p1), .val (.int p2), .val (.int (own_c0 p0)), .val (.int (own_c1 p0)), .val (.int (own_c2 p0)), .val (.int (own_c3 p0)), .val (.ref b1), .val (.int (own_cn p2)), .val (.int (((p2.toUInt32 >>> ((3 : Int32) &&& 31).toUInt32).toInt32) &&& (3 : Int32))), .val (.ref nm), .val (.int kx), .val (.int (1 : Int32)), .val (.int (-1 : Int32))] [(.int (2 : Int32)), (.int (own_cn p2))])) (fun t kt => ?_) ?_
              · show Steps p.tables e below (T9.setTop (mkF m 251 #[.val (.int p0), .val (.int p1), .val (.int p2), .val (.int (own_c0 p0)), .val (.int (own_c1 p0)), .val (.int (own_c2 p0)), .val (.int (own_c3 p0)), .val (.ref b1), .val (.int (own_cn p2)), .val (.int (((p2.toUInt32 >>> ((3 : Int32) &&& 31).toUInt32).toInt32) &&& (3 : Int32))), .val (.ref nm), .val (.int kx), .val (.int (1 : Int32)), .val (.int (-1 : Int32))] [])) t
                refine XS.iload X9.here hx rfl (hb hby at_251) rfl ?_
                refine XS.iconst X9.here hx rfl (hb hby at_253) ?_
                exact kt
              by_cases hc254 : (2 : Int32) < (own_cn p2)
              · refine OGo.step (F' := T9.setTop (mkF m 257 #[.val (.int p0), .val (.int p1), .val (.int p2), .val (.int (own_c0 p0)), .val (.int (own_c1 p0)), .val (.int (own_c2 p0)), .val (.int (own_c3 p0)), .val (.ref b1), .val (.int (own_cn p2)), .val (.int (((p2.toUInt32 >>> ((3 : Int32) &&& 31).toUInt32).toInt32) &&& (3 : Int32))), .val (.ref nm), .val (.int kx), .val (.int (1 : Int32)), .val (.int (-1 : Int32))] [])) (fun t kt => ?_) ?_
                · show Steps p.tables e below (T9.setTop (mkF m 254 #[.val (.int p0), .val (.int p1), .val (.int p2), .val (.int (own_c0 p0)), .val (.int (own_c1 p0)), .val (.int (own_c2 p0)), .val (.int (own_c3 p0)), .val (.ref b1), .val (.int (own_cn p2)), .val (.int (((p2.toUInt32 >>> ((3 : Int32) &&& 31).toUInt32).toInt32) &&& (3 : Int32))), .val (.ref nm), .val (.int kx), .val (.int (1 : Int32)), .val (.int (-1 : Int32))] [(.int (2 : Int32)), (.int (own_cn p2))])) t
                  refine XS.icmpNo X9.here hx rfl (hb hby at_254) rfl (tlt hc254).2.2.2 ?_
                  exact kt
                refine OGo.step (F' := T9.setTop (mkF m 261 #[.val (.int p0), .val (.int p1), .val (.int p2), .val (.int (own_c0 p0)), .val (.int (own_c1 p0)), .val (.int (own_c2 p0)), .val (.int (own_c3 p0)), .val (.ref b1), .val (.int (own_cn p2)), .val (.int (((p2.toUInt32 >>> ((3 : Int32) &&& 31).toUInt32).toInt32) &&& (3 : Int32))), .val (.ref nm), .val (.int kx), .val (.int (1 : Int32)), .val (.int (-1 : Int32))] [(.int kx), (.int (own_c2 p0))])) (fun t kt => ?_) ?_
                · show Steps p.tables e below (T9.setTop (mkF m 257 #[.val (.int p0), .val (.int p1), .val (.int p2), .val (.int (own_c0 p0)), .val (.int (own_c1 p0)), .val (.int (own_c2 p0)), .val (.int (own_c3 p0)), .val (.ref b1), .val (.int (own_cn p2)), .val (.int (((p2.toUInt32 >>> ((3 : Int32) &&& 31).toUInt32).toInt32) &&& (3 : Int32))), .val (.ref nm), .val (.int kx), .val (.int (1 : Int32)), .val (.int (-1 : Int32))] [])) t
                  refine XS.iload X9.here hx rfl (hb hby at_257) rfl ?_
                  refine XS.iload X9.here hx rfl (hb hby at_259) rfl ?_
                  exact kt
                by_cases hc261 : (own_c2 p0) = kx
                · refine OGo.step (F' := T9.setTop (mkF m 264 #[.val (.int p0), .val (.int p1), .val (.int p2), .val (.int (own_c0 p0)), .val (.int (own_c1 p0)), .val (.int (own_c2 p0)), .val (.int (own_c3 p0)), .val (.ref b1), .val (.int (own_cn p2)), .val (.int (((p2.toUInt32 >>> ((3 : Int32) &&& 31).toUInt32).toInt32) &&& (3 : Int32))), .val (.ref nm), .val (.int kx), .val (.int (1 : Int32)), .val (.int (-1 : Int32))] [])) (fun t kt => ?_) ?_
                  · show Steps p.tables e below (T9.setTop (mkF m 261 #[.val (.int p0), .val (.int p1), .val (.int p2), .val (.int (own_c0 p0)), .val (.int (own_c1 p0)), .val (.int (own_c2 p0)), .val (.int (own_c3 p0)), .val (.ref b1), .val (.int (own_cn p2)), .val (.int (((p2.toUInt32 >>> ((3 : Int32) &&& 31).toUInt32).toInt32) &&& (3 : Int32))), .val (.ref nm), .val (.int kx), .val (.int (1 : Int32)), .val (.int (-1 : Int32))] [(.int kx), (.int (own_c2 p0))])) t
                    refine XS.icmpNo X9.here hx rfl (hb hby at_261) rfl (teq hc261).2 ?_
                    exact kt
                  refine OGo.step (F' := T9.setTop (mkF m 292 #[.val (.int p0), .val (.int p1), .val (.int p2), .val (.int (own_c0 p0)), .val (.int (own_c1 p0)), .val (.int (own_c2 p0)), .val (.int (own_c3 p0)), .val (.ref b1), .val (.int (own_cn p2)), .val (.int (((p2.toUInt32 >>> ((3 : Int32) &&& 31).toUInt32).toInt32) &&& (3 : Int32))), .val (.ref nm), .val (.int kx), .val (.int (1 : Int32)), .val (.int (2 : Int32))] [(.ref nm), (.int (own_cn p2)), (.ref b1)])) (fun t kt => ?_) ?_
                  · show Steps p.tables e below (T9.setTop (mkF m 264 #[.val (.int p0), .val (.int p1), .val (.int p2), .val (.int (own_c0 p0)), .val (.int (own_c1 p0)), .val (.int (own_c2 p0)), .val (.int (own_c3 p0)), .val (.ref b1), .val (.int (own_cn p2)), .val (.int (((p2.toUInt32 >>> ((3 : Int32) &&& 31).toUInt32).toInt32) &&& (3 : Int32))), .val (.ref nm), .val (.int kx), .val (.int (1 : Int32)), .val (.int (-1 : Int32))] [])) t
                    refine XS.iconst X9.here hx rfl (hb hby at_264) ?_
                    refine XS.istore X9.here hx rfl (hb hby at_265) rfl (l' := #[.val (.int p0), .val (.int p1), .val (.int p2), .val (.int (own_c0 p0)), .val (.int (own_c1 p0)), .val (.int (own_c2 p0)), .val (.int (own_c3 p0)), .val (.ref b1), .val (.int (own_cn p2)), .val (.int (((p2.toUInt32 >>> ((3 : Int32) &&& 31).toUInt32).toInt32) &&& (3 : Int32))), .val (.ref nm), .val (.int kx), .val (.int (1 : Int32)), .val (.int (2 : Int32))]) rfl ?_
                    refine XS.goto X9.here hx rfl (pc0 := 267) (pc' := 286) rfl (hb hby at_267) (by decide) (by decide) ?_
                    refine XS.aload X9.here hx rfl (hb hby at_286) rfl rfl ?_
                    refine XS.iload X9.here hx rfl (hb hby at_288) rfl ?_
                    refine XS.aload X9.here hx rfl (hb hby at_290) rfl rfl ?_
                    exact kt
                  refine OGo.callS X9 hx hZ (y := (⟨"com/example/kette/kette/JsonObject", "walk", "([Ljava/lang/String;ILjava/lang/Object;)I"⟩ : MethodName)) hown (own_wd hw 28 rfl) (own_wd hw 29 rfl) (own_wd hw 30 rfl) (own_wd hw 31 rfl) (by decide) (rm6 l Z az hw [] b1 (own_cn p2) nm k1 b2_r b4_r b6_r b8_r b2_t b4_t b6_t b8_t (own_by (own_ch (own_c0 p0))) (own_by (own_ch (own_c1 p0))) (own_by (own_ch (own_c2 p0))) (own_by (own_ch (own_c3 p0))) tn (own_by (own_ch kx)) w_COMPACT_STRINGS h9 n0 (Nat.le_trans Z0 KC9.1) V9 Z10_5 Z10_6 Z10_7 Z10_8 Z10_9 Z10_10 Z10_11 Z10_12 Z10_13 Z10_14 Z10_15 Z10_16 Z10_17 Z10_18 Z10_19 Z10_20 E_nm Fv_nm Fc_nm O_tn hC (own_cnt _) Z10_4) (W := 0) (by decide) (by decide) (g := (mkF m 292 #[.val (.int p0), .val (.int p1), .val (.int p2), .val (.int (own_c0 p0)), .val (.int (own_c1 p0)), .val (.int (own_c2 p0)), .val (.int (own_c3 p0)), .val (.ref b1), .val (.int (own_cn p2)), .val (.int (((p2.toUInt32 >>> ((3 : Int32) &&& 31).toUInt32).toInt32) &&& (3 : Int32))), .val (.ref nm), .val (.int kx), .val (.int (1 : Int32)), .val (.int (2 : Int32))] [(.ref nm), (.int (own_cn p2)), (.ref b1)])) rfl (by rw [hml]; rfl) (argsL := [(.ref b1), (.int (own_cn p2)), (.ref nm)]) (rest := []) (lenOf pd_0_1 rfl) rfl (by show 2 * 0 + _ ≤ _; exact Nat.le_of_eq rfl) (hb hby at_292) rfl e9 (by decide) (by decide) ?_
                  rintro _ T52 L52 X52 ⟨rfl, Nq52, e52⟩
                  have N52 := Fr.app N9 Nq52
                  show OGo _ _ _ _ _ _ _ (T52.setTop (mkF m 295 #[.val (.int p0), .val (.int p1), .val (.int p2), .val (.int (own_c0 p0)), .val (.int (own_c1 p0)), .val (.int (own_c2 p0)), .val (.int (own_c3 p0)), .val (.ref b1), .val (.int (own_cn p2)), .val (.int (((p2.toUInt32 >>> ((3 : Int32) &&& 31).toUInt32).toInt32) &&& (3 : Int32))), .val (.ref nm), .val (.int kx), .val (.int (1 : Int32)), .val (.int (2 : Int32))] [(.int (f6 (own_cn p2) nm b2_r b4_r b6_r b8_r (own_by (own_ch (own_c0 p0))) (own_by (own_ch (own_c1 p0))) (own_by (own_ch (own_c2 p0))) (own_by (own_ch (own_c3 p0))) (own_by (own_ch kx))))]))
                  refine OGo.step (F' := T52.setTop (mkF m 305 #[.val (.int p0), .val (.int p1), .val (.int p2), .val (.int (own_c0 p0)), .val (.int (own_c1 p0)), .val (.int (own_c2 p0)), .val (.int (own_c3 p0)), .val (.ref b1), .val (.int (own_cn p2)), .val (.int (((p2.toUInt32 >>> ((3 : Int32) &&& 31).toUInt32).toInt32) &&& (3 : Int32))), .val (.ref nm), .val (.int kx), .val (.int (1 : Int32)), .val (.int (2 : Int32))] [(.int (1 : Int32))])) (fun t kt => ?_) ?_
                  · show Steps p.tables e below (T52.setTop (mkF m 295 #[.val (.int p0), .val (.int p1), .val (.int p2), .val (.int (own_c0 p0)), .val (.int (own_c1 p0)), .val (.int (own_c2 p0)), .val (.int (own_c3 p0)), .val (.ref b1), .val (.int (own_cn p2)), .val (.int (((p2.toUInt32 >>> ((3 : Int32) &&& 31).toUInt32).toInt32) &&& (3 : Int32))), .val (.ref nm), .val (.int kx), .val (.int (1 : Int32)), .val (.int (2 : Int32))] [(.int (f6 (own_cn p2) nm b2_r b4_r b6_r b8_r (own_by (own_ch (own_c0 p0))) (own_by (own_ch (own_c1 p0))) (own_by (own_ch (own_c2 p0))) (own_by (own_ch (own_c3 p0))) (own_by (own_ch kx))))])) t
                    refine XS.iload X52.here hx rfl (hb hby at_295) rfl ?_
                    refine XS.icmpNo X52.here hx rfl (hb hby at_297) rfl (teq (by rw [own_fin _ (own_c0 p0) (own_c1 p0) (own_c2 p0) (own_c3 p0) kx _ _ _ _ _ _ _ _ _ _ (own_e _ _ _ _ (own_r0 _) hkx hal0) (own_e _ _ _ _ (own_r1 _) hkx hal1) (own_e _ _ _ _ (own_r2 _) hkx hal2) (own_e _ _ _ _ (own_r3 _) hkx hal3) (own_cnt _), own_exp, if_neg (fun q => hc223 q.2), if_neg (fun q => hc235 q.1), if_pos ⟨hc254, hc261⟩])).2 ?_
                    refine XS.iconst X52.here hx rfl (hb hby at_300) ?_
                    refine XS.goto X52.here hx rfl (pc0 := 301) (pc' := 305) rfl (hb hby at_301) (by decide) (by decide) ?_
                    exact kt
                  refine OGo.retZ X52 hx hlk (t := .boolean) (z' := (1 : Int32)) hret (by simp) (hb hby at_305) rfl ?_ (by decide) (by decide)
                  show Q0 Z p0 p1 p2 w_high w_cache w_COMPACT_STRINGS h0 n0 _ T52.heap _
                  rw [e52]
                  exact ⟨rfl, N52, KC9⟩
                · refine OGo.step (F' := T9.setTop (mkF m 270 #[.val (.int p0), .val (.int p1), .val (.int p2), .val (.int (own_c0 p0)), .val (.int (own_c1 p0)), .val (.int (own_c2 p0)), .val (.int (own_c3 p0)), .val (.ref b1), .val (.int (own_cn p2)), .val (.int (((p2.toUInt32 >>> ((3 : Int32) &&& 31).toUInt32).toInt32) &&& (3 : Int32))), .val (.ref nm), .val (.int kx), .val (.int (1 : Int32)), .val (.int (-1 : Int32))] [])) (fun t kt => ?_) ?_
                  · show Steps p.tables e below (T9.setTop (mkF m 261 #[.val (.int p0), .val (.int p1), .val (.int p2), .val (.int (own_c0 p0)), .val (.int (own_c1 p0)), .val (.int (own_c2 p0)), .val (.int (own_c3 p0)), .val (.ref b1), .val (.int (own_cn p2)), .val (.int (((p2.toUInt32 >>> ((3 : Int32) &&& 31).toUInt32).toInt32) &&& (3 : Int32))), .val (.ref nm), .val (.int kx), .val (.int (1 : Int32)), .val (.int (-1 : Int32))] [(.int kx), (.int (own_c2 p0))])) t
                    refine XS.icmpYes X9.here hx rfl (pc0 := 261) (pc' := 270) rfl (hb hby at_261) rfl (feq hc261).2 (by decide) (by decide) ?_
                    exact kt
                  refine OGo.step (F' := T9.setTop (mkF m 273 #[.val (.int p0), .val (.int p1), .val (.int p2), .val (.int (own_c0 p0)), .val (.int (own_c1 p0)), .val (.int (own_c2 p0)), .val (.int (own_c3 p0)), .val (.ref b1), .val (.int (own_cn p2)), .val (.int (((p2.toUInt32 >>> ((3 : Int32) &&& 31).toUInt32).toInt32) &&& (3 : Int32))), .val (.ref nm), .val (.int kx), .val (.int (1 : Int32)), .val (.int (-1 : Int32))] [(.int (3 : Int32)), (.int (own_cn p2))])) (fun t kt => ?_) ?_
                  · show Steps p.tables e below (T9.setTop (mkF m 270 #[.val (.int p0), .val (.int p1), .val (.int p2), .val (.int (own_c0 p0)), .val (.int (own_c1 p0)), .val (.int (own_c2 p0)), .val (.int (own_c3 p0)), .val (.ref b1), .val (.int (own_cn p2)), .val (.int (((p2.toUInt32 >>> ((3 : Int32) &&& 31).toUInt32).toInt32) &&& (3 : Int32))), .val (.ref nm), .val (.int kx), .val (.int (1 : Int32)), .val (.int (-1 : Int32))] [])) t
                    refine XS.iload X9.here hx rfl (hb hby at_270) rfl ?_
                    refine XS.iconst X9.here hx rfl (hb hby at_272) ?_
                    exact kt
                  by_cases hc273 : (3 : Int32) < (own_cn p2)
                  · refine OGo.step (F' := T9.setTop (mkF m 276 #[.val (.int p0), .val (.int p1), .val (.int p2), .val (.int (own_c0 p0)), .val (.int (own_c1 p0)), .val (.int (own_c2 p0)), .val (.int (own_c3 p0)), .val (.ref b1), .val (.int (own_cn p2)), .val (.int (((p2.toUInt32 >>> ((3 : Int32) &&& 31).toUInt32).toInt32) &&& (3 : Int32))), .val (.ref nm), .val (.int kx), .val (.int (1 : Int32)), .val (.int (-1 : Int32))] [])) (fun t kt => ?_) ?_
                    · show Steps p.tables e below (T9.setTop (mkF m 273 #[.val (.int p0), .val (.int p1), .val (.int p2), .val (.int (own_c0 p0)), .val (.int (own_c1 p0)), .val (.int (own_c2 p0)), .val (.int (own_c3 p0)), .val (.ref b1), .val (.int (own_cn p2)), .val (.int (((p2.toUInt32 >>> ((3 : Int32) &&& 31).toUInt32).toInt32) &&& (3 : Int32))), .val (.ref nm), .val (.int kx), .val (.int (1 : Int32)), .val (.int (-1 : Int32))] [(.int (3 : Int32)), (.int (own_cn p2))])) t
                      refine XS.icmpNo X9.here hx rfl (hb hby at_273) rfl (tlt hc273).2.2.2 ?_
                      exact kt
                    refine OGo.step (F' := T9.setTop (mkF m 280 #[.val (.int p0), .val (.int p1), .val (.int p2), .val (.int (own_c0 p0)), .val (.int (own_c1 p0)), .val (.int (own_c2 p0)), .val (.int (own_c3 p0)), .val (.ref b1), .val (.int (own_cn p2)), .val (.int (((p2.toUInt32 >>> ((3 : Int32) &&& 31).toUInt32).toInt32) &&& (3 : Int32))), .val (.ref nm), .val (.int kx), .val (.int (1 : Int32)), .val (.int (-1 : Int32))] [(.int kx), (.int (own_c3 p0))])) (fun t kt => ?_) ?_
                    · show Steps p.tables e below (T9.setTop (mkF m 276 #[.val (.int p0), .val (.int p1), .val (.int p2), .val (.int (own_c0 p0)), .val (.int (own_c1 p0)), .val (.int (own_c2 p0)), .val (.int (own_c3 p0)), .val (.ref b1), .val (.int (own_cn p2)), .val (.int (((p2.toUInt32 >>> ((3 : Int32) &&& 31).toUInt32).toInt32) &&& (3 : Int32))), .val (.ref nm), .val (.int kx), .val (.int (1 : Int32)), .val (.int (-1 : Int32))] [])) t
                      refine XS.iload X9.here hx rfl (hb hby at_276) rfl ?_
                      refine XS.iload X9.here hx rfl (hb hby at_278) rfl ?_
                      exact kt
                    by_cases hc280 : (own_c3 p0) = kx
                    · refine OGo.step (F' := T9.setTop (mkF m 283 #[.val (.int p0), .val (.int p1), .val (.int p2), .val (.int (own_c0 p0)), .val (.int (own_c1 p0)), .val (.int (own_c2 p0)), .val (.int (own_c3 p0)), .val (.ref b1), .val (.int (own_cn p2)), .val (.int (((p2.toUInt32 >>> ((3 : Int32) &&& 31).toUInt32).toInt32) &&& (3 : Int32))), .val (.ref nm), .val (.int kx), .val (.int (1 : Int32)), .val (.int (-1 : Int32))] [])) (fun t kt => ?_) ?_
                      · show Steps p.tables e below (T9.setTop (mkF m 280 #[.val (.int p0), .val (.int p1), .val (.int p2), .val (.int (own_c0 p0)), .val (.int (own_c1 p0)), .val (.int (own_c2 p0)), .val (.int (own_c3 p0)), .val (.ref b1), .val (.int (own_cn p2)), .val (.int (((p2.toUInt32 >>> ((3 : Int32) &&& 31).toUInt32).toInt32) &&& (3 : Int32))), .val (.ref nm), .val (.int kx), .val (.int (1 : Int32)), .val (.int (-1 : Int32))] [(.int kx), (.int (own_c3 p0))])) t
                        refine XS.icmpNo X9.here hx rfl (hb hby at_280) rfl (teq hc280).2 ?_
                        exact kt
                      refine OGo.step (F' := T9.setTop (mkF m 292 #[.val (.int p0), .val (.int p1), .val (.int p2), .val (.int (own_c0 p0)), .val (.int (own_c1 p0)), .val (.int (own_c2 p0)), .val (.int (own_c3 p0)), .val (.ref b1), .val (.int (own_cn p2)), .val (.int (((p2.toUInt32 >>> ((3 : Int32) &&& 31).toUInt32).toInt32) &&& (3 : Int32))), .val (.ref nm), .val (.int kx), .val (.int (1 : Int32)), .val (.int (3 : Int32))] [(.ref nm), (.int (own_cn p2)), (.ref b1)])) (fun t kt => ?_) ?_
                      · show Steps p.tables e below (T9.setTop (mkF m 283 #[.val (.int p0), .val (.int p1), .val (.int p2), .val (.int (own_c0 p0)), .val (.int (own_c1 p0)), .val (.int (own_c2 p0)), .val (.int (own_c3 p0)), .val (.ref b1), .val (.int (own_cn p2)), .val (.int (((p2.toUInt32 >>> ((3 : Int32) &&& 31).toUInt32).toInt32) &&& (3 : Int32))), .val (.ref nm), .val (.int kx), .val (.int (1 : Int32)), .val (.int (-1 : Int32))] [])) t
                        refine XS.iconst X9.here hx rfl (hb hby at_283) ?_
                        refine XS.istore X9.here hx rfl (hb hby at_284) rfl (l' := #[.val (.int p0), .val (.int p1), .val (.int p2), .val (.int (own_c0 p0)), .val (.int (own_c1 p0)), .val (.int (own_c2 p0)), .val (.int (own_c3 p0)), .val (.ref b1), .val (.int (own_cn p2)), .val (.int (((p2.toUInt32 >>> ((3 : Int32) &&& 31).toUInt32).toInt32) &&& (3 : Int32))), .val (.ref nm), .val (.int kx), .val (.int (1 : Int32)), .val (.int (3 : Int32))]) rfl ?_
                        refine XS.aload X9.here hx rfl (hb hby at_286) rfl rfl ?_
                        refine XS.iload X9.here hx rfl (hb hby at_288) rfl ?_
                        refine XS.aload X9.here hx rfl (hb hby at_290) rfl rfl ?_
                        exact kt
                      refine OGo.callS X9 hx hZ (y := (⟨"com/example/kette/kette/JsonObject", "walk", "([Ljava/lang/String;ILjava/lang/Object;)I"⟩ : MethodName)) hown (own_wd hw 28 rfl) (own_wd hw 29 rfl) (own_wd hw 30 rfl) (own_wd hw 31 rfl) (by decide) (rm6 l Z az hw [] b1 (own_cn p2) nm k1 b2_r b4_r b6_r b8_r b2_t b4_t b6_t b8_t (own_by (own_ch (own_c0 p0))) (own_by (own_ch (own_c1 p0))) (own_by (own_ch (own_c2 p0))) (own_by (own_ch (own_c3 p0))) tn (own_by (own_ch kx)) w_COMPACT_STRINGS h9 n0 (Nat.le_trans Z0 KC9.1) V9 Z10_5 Z10_6 Z10_7 Z10_8 Z10_9 Z10_10 Z10_11 Z10_12 Z10_13 Z10_14 Z10_15 Z10_16 Z10_17 Z10_18 Z10_19 Z10_20 E_nm Fv_nm Fc_nm O_tn hC (own_cnt _) Z10_4) (W := 0) (by decide) (by decide) (g := (mkF m 292 #[.val (.int p0), .val (.int p1), .val (.int p2), .val (.int (own_c0 p0)), .val (.int (own_c1 p0)), .val (.int (own_c2 p0)), .val (.int (own_c3 p0)), .val (.ref b1), .val (.int (own_cn p2)), .val (.int (((p2.toUInt32 >>> ((3 : Int32) &&& 31).toUInt32).toInt32) &&& (3 : Int32))), .val (.ref nm), .val (.int kx), .val (.int (1 : Int32)), .val (.int (3 : Int32))] [(.ref nm), (.int (own_cn p2)), (.ref b1)])) rfl (by rw [hml]; rfl) (argsL := [(.ref b1), (.int (own_cn p2)), (.ref nm)]) (rest := []) (lenOf pd_0_1 rfl) rfl (by show 2 * 0 + _ ≤ _; exact Nat.le_of_eq rfl) (hb hby at_292) rfl e9 (by decide) (by decide) ?_
                      rintro _ T53 L53 X53 ⟨rfl, Nq53, e53⟩
                      have N53 := Fr.app N9 Nq53
                      show OGo _ _ _ _ _ _ _ (T53.setTop (mkF m 295 #[.val (.int p0), .val (.int p1), .val (.int p2), .val (.int (own_c0 p0)), .val (.int (own_c1 p0)), .val (.int (own_c2 p0)), .val (.int (own_c3 p0)), .val (.ref b1), .val (.int (own_cn p2)), .val (.int (((p2.toUInt32 >>> ((3 : Int32) &&& 31).toUInt32).toInt32) &&& (3 : Int32))), .val (.ref nm), .val (.int kx), .val (.int (1 : Int32)), .val (.int (3 : Int32))] [(.int (f6 (own_cn p2) nm b2_r b4_r b6_r b8_r (own_by (own_ch (own_c0 p0))) (own_by (own_ch (own_c1 p0))) (own_by (own_ch (own_c2 p0))) (own_by (own_ch (own_c3 p0))) (own_by (own_ch kx))))]))
                      refine OGo.step (F' := T53.setTop (mkF m 305 #[.val (.int p0), .val (.int p1), .val (.int p2), .val (.int (own_c0 p0)), .val (.int (own_c1 p0)), .val (.int (own_c2 p0)), .val (.int (own_c3 p0)), .val (.ref b1), .val (.int (own_cn p2)), .val (.int (((p2.toUInt32 >>> ((3 : Int32) &&& 31).toUInt32).toInt32) &&& (3 : Int32))), .val (.ref nm), .val (.int kx), .val (.int (1 : Int32)), .val (.int (3 : Int32))] [(.int (1 : Int32))])) (fun t kt => ?_) ?_
                      · show Steps p.tables e below (T53.setTop (mkF m 295 #[.val (.int p0), .val (.int p1), .val (.int p2), .val (.int (own_c0 p0)), .val (.int (own_c1 p0)), .val (.int (own_c2 p0)), .val (.int (own_c3 p0)), .val (.ref b1), .val (.int (own_cn p2)), .val (.int (((p2.toUInt32 >>> ((3 : Int32) &&& 31).toUInt32).toInt32) &&& (3 : Int32))), .val (.ref nm), .val (.int kx), .val (.int (1 : Int32)), .val (.int (3 : Int32))] [(.int (f6 (own_cn p2) nm b2_r b4_r b6_r b8_r (own_by (own_ch (own_c0 p0))) (own_by (own_ch (own_c1 p0))) (own_by (own_ch (own_c2 p0))) (own_by (own_ch (own_c3 p0))) (own_by (own_ch kx))))])) t
                        refine XS.iload X53.here hx rfl (hb hby at_295) rfl ?_
                        refine XS.icmpNo X53.here hx rfl (hb hby at_297) rfl (teq (by rw [own_fin _ (own_c0 p0) (own_c1 p0) (own_c2 p0) (own_c3 p0) kx _ _ _ _ _ _ _ _ _ _ (own_e _ _ _ _ (own_r0 _) hkx hal0) (own_e _ _ _ _ (own_r1 _) hkx hal1) (own_e _ _ _ _ (own_r2 _) hkx hal2) (own_e _ _ _ _ (own_r3 _) hkx hal3) (own_cnt _), own_exp, if_neg (fun q => hc223 q.2), if_neg (fun q => hc235 q.1), if_neg (fun q => hc261 q.2), if_pos ⟨hc273, hc280⟩])).2 ?_
                        refine XS.iconst X53.here hx rfl (hb hby at_300) ?_
                        refine XS.goto X53.here hx rfl (pc0 := 301) (pc' := 305) rfl (hb hby at_301) (by decide) (by decide) ?_
                        exact kt
                      refine OGo.retZ X53 hx hlk (t := .boolean) (z' := (1 : Int32)) hret (by simp) (hb hby at_305) rfl ?_ (by decide) (by decide)
                      show Q0 Z p0 p1 p2 w_high w_cache w_COMPACT_STRINGS h0 n0 _ T53.heap _
                      rw [e53]
                      exact ⟨rfl, N53, KC9⟩
                    · refine OGo.step (F' := T9.setTop (mkF m 286 #[.val (.int p0), .val (.int p1), .val (.int p2), .val (.int (own_c0 p0)), .val (.int (own_c1 p0)), .val (.int (own_c2 p0)), .val (.int (own_c3 p0)), .val (.ref b1), .val (.int (own_cn p2)), .val (.int (((p2.toUInt32 >>> ((3 : Int32) &&& 31).toUInt32).toInt32) &&& (3 : Int32))), .val (.ref nm), .val (.int kx), .val (.int (1 : Int32)), .val (.int (-1 : Int32))] [])) (fun t kt => ?_) ?_
                      · show Steps p.tables e below (T9.setTop (mkF m 280 #[.val (.int p0), .val (.int p1), .val (.int p2), .val (.int (own_c0 p0)), .val (.int (own_c1 p0)), .val (.int (own_c2 p0)), .val (.int (own_c3 p0)), .val (.ref b1), .val (.int (own_cn p2)), .val (.int (((p2.toUInt32 >>> ((3 : Int32) &&& 31).toUInt32).toInt32) &&& (3 : Int32))), .val (.ref nm), .val (.int kx), .val (.int (1 : Int32)), .val (.int (-1 : Int32))] [(.int kx), (.int (own_c3 p0))])) t
                        refine XS.icmpYes X9.here hx rfl (pc0 := 280) (pc' := 286) rfl (hb hby at_280) rfl (feq hc280).2 (by decide) (by decide) ?_
                        exact kt
                      refine OGo.step (F' := T9.setTop (mkF m 292 #[.val (.int p0), .val (.int p1), .val (.int p2), .val (.int (own_c0 p0)), .val (.int (own_c1 p0)), .val (.int (own_c2 p0)), .val (.int (own_c3 p0)), .val (.ref b1), .val (.int (own_cn p2)), .val (.int (((p2.toUInt32 >>> ((3 : Int32) &&& 31).toUInt32).toInt32) &&& (3 : Int32))), .val (.ref nm), .val (.int kx), .val (.int (1 : Int32)), .val (.int (-1 : Int32))] [(.ref nm), (.int (own_cn p2)), (.ref b1)])) (fun t kt => ?_) ?_
                      · show Steps p.tables e below (T9.setTop (mkF m 286 #[.val (.int p0), .val (.int p1), .val (.int p2), .val (.int (own_c0 p0)), .val (.int (own_c1 p0)), .val (.int (own_c2 p0)), .val (.int (own_c3 p0)), .val (.ref b1), .val (.int (own_cn p2)), .val (.int (((p2.toUInt32 >>> ((3 : Int32) &&& 31).toUInt32).toInt32) &&& (3 : Int32))), .val (.ref nm), .val (.int kx), .val (.int (1 : Int32)), .val (.int (-1 : Int32))] [])) t
                        refine XS.aload X9.here hx rfl (hb hby at_286) rfl rfl ?_
                        refine XS.iload X9.here hx rfl (hb hby at_288) rfl ?_
                        refine XS.aload X9.here hx rfl (hb hby at_290) rfl rfl ?_
                        exact kt
                      refine OGo.callS X9 hx hZ (y := (⟨"com/example/kette/kette/JsonObject", "walk", "([Ljava/lang/String;ILjava/lang/Object;)I"⟩ : MethodName)) hown (own_wd hw 28 rfl) (own_wd hw 29 rfl) (own_wd hw 30 rfl) (own_wd hw 31 rfl) (by decide) (rm6 l Z az hw [] b1 (own_cn p2) nm k1 b2_r b4_r b6_r b8_r b2_t b4_t b6_t b8_t (own_by (own_ch (own_c0 p0))) (own_by (own_ch (own_c1 p0))) (own_by (own_ch (own_c2 p0))) (own_by (own_ch (own_c3 p0))) tn (own_by (own_ch kx)) w_COMPACT_STRINGS h9 n0 (Nat.le_trans Z0 KC9.1) V9 Z10_5 Z10_6 Z10_7 Z10_8 Z10_9 Z10_10 Z10_11 Z10_12 Z10_13 Z10_14 Z10_15 Z10_16 Z10_17 Z10_18 Z10_19 Z10_20 E_nm Fv_nm Fc_nm O_tn hC (own_cnt _) Z10_4) (W := 0) (by decide) (by decide) (g := (mkF m 292 #[.val (.int p0), .val (.int p1), .val (.int p2), .val (.int (own_c0 p0)), .val (.int (own_c1 p0)), .val (.int (own_c2 p0)), .val (.int (own_c3 p0)), .val (.ref b1), .val (.int (own_cn p2)), .val (.int (((p2.toUInt32 >>> ((3 : Int32) &&& 31).toUInt32).toInt32) &&& (3 : Int32))), .val (.ref nm), .val (.int kx), .val (.int (1 : Int32)), .val (.int (-1 : Int32))] [(.ref nm), (.int (own_cn p2)), (.ref b1)])) rfl (by rw [hml]; rfl) (argsL := [(.ref b1), (.int (own_cn p2)), (.ref nm)]) (rest := []) (lenOf pd_0_1 rfl) rfl (by show 2 * 0 + _ ≤ _; exact Nat.le_of_eq rfl) (hb hby at_292) rfl e9 (by decide) (by decide) ?_
                      rintro _ T54 L54 X54 ⟨rfl, Nq54, e54⟩
                      have N54 := Fr.app N9 Nq54
                      show OGo _ _ _ _ _ _ _ (T54.setTop (mkF m 295 #[.val (.int p0), .val (.int p1), .val (.int p2), .val (.int (own_c0 p0)), .val (.int (own_c1 p0)), .val (.int (own_c2 p0)), .val (.int (own_c3 p0)), .val (.ref b1), .val (.int (own_cn p2)), .val (.int (((p2.toUInt32 >>> ((3 : Int32) &&& 31).toUInt32).toInt32) &&& (3 : Int32))), .val (.ref nm), .val (.int kx), .val (.int (1 : Int32)), .val (.int (-1 : Int32))] [(.int (f6 (own_cn p2) nm b2_r b4_r b6_r b8_r (own_by (own_ch (own_c0 p0))) (own_by (own_ch (own_c1 p0))) (own_by (own_ch (own_c2 p0))) (own_by (own_ch (own_c3 p0))) (own_by (own_ch kx))))]))
                      refine OGo.step (F' := T54.setTop (mkF m 305 #[.val (.int p0), .val (.int p1), .val (.int p2), .val (.int (own_c0 p0)), .val (.int (own_c1 p0)), .val (.int (own_c2 p0)), .val (.int (own_c3 p0)), .val (.ref b1), .val (.int (own_cn p2)), .val (.int (((p2.toUInt32 >>> ((3 : Int32) &&& 31).toUInt32).toInt32) &&& (3 : Int32))), .val (.ref nm), .val (.int kx), .val (.int (1 : Int32)), .val (.int (-1 : Int32))] [(.int (1 : Int32))])) (fun t kt => ?_) ?_
                      · show Steps p.tables e below (T54.setTop (mkF m 295 #[.val (.int p0), .val (.int p1), .val (.int p2), .val (.int (own_c0 p0)), .val (.int (own_c1 p0)), .val (.int (own_c2 p0)), .val (.int (own_c3 p0)), .val (.ref b1), .val (.int (own_cn p2)), .val (.int (((p2.toUInt32 >>> ((3 : Int32) &&& 31).toUInt32).toInt32) &&& (3 : Int32))), .val (.ref nm), .val (.int kx), .val (.int (1 : Int32)), .val (.int (-1 : Int32))] [(.int (f6 (own_cn p2) nm b2_r b4_r b6_r b8_r (own_by (own_ch (own_c0 p0))) (own_by (own_ch (own_c1 p0))) (own_by (own_ch (own_c2 p0))) (own_by (own_ch (own_c3 p0))) (own_by (own_ch kx))))])) t
                        refine XS.iload X54.here hx rfl (hb hby at_295) rfl ?_
                        refine XS.icmpNo X54.here hx rfl (hb hby at_297) rfl (teq (by rw [own_fin _ (own_c0 p0) (own_c1 p0) (own_c2 p0) (own_c3 p0) kx _ _ _ _ _ _ _ _ _ _ (own_e _ _ _ _ (own_r0 _) hkx hal0) (own_e _ _ _ _ (own_r1 _) hkx hal1) (own_e _ _ _ _ (own_r2 _) hkx hal2) (own_e _ _ _ _ (own_r3 _) hkx hal3) (own_cnt _), own_exp, if_neg (fun q => hc223 q.2), if_neg (fun q => hc235 q.1), if_neg (fun q => hc261 q.2), if_neg (fun q => hc280 q.2)])).2 ?_
                        refine XS.iconst X54.here hx rfl (hb hby at_300) ?_
                        refine XS.goto X54.here hx rfl (pc0 := 301) (pc' := 305) rfl (hb hby at_301) (by decide) (by decide) ?_
                        exact kt
                      refine OGo.retZ X54 hx hlk (t := .boolean) (z' := (1 : Int32)) hret (by simp) (hb hby at_305) rfl ?_ (by decide) (by decide)
                      show Q0 Z p0 p1 p2 w_high w_cache w_COMPACT_STRINGS h0 n0 _ T54.heap _
                      rw [e54]
                      exact ⟨rfl, N54, KC9⟩
                  · refine OGo.step (F' := T9.setTop (mkF m 286 #[.val (.int p0), .val (.int p1), .val (.int p2), .val (.int (own_c0 p0)), .val (.int (own_c1 p0)), .val (.int (own_c2 p0)), .val (.int (own_c3 p0)), .val (.ref b1), .val (.int (own_cn p2)), .val (.int (((p2.toUInt32 >>> ((3 : Int32) &&& 31).toUInt32).toInt32) &&& (3 : Int32))), .val (.ref nm), .val (.int kx), .val (.int (1 : Int32)), .val (.int (-1 : Int32))] [])) (fun t kt => ?_) ?_
                    · show Steps p.tables e below (T9.setTop (mkF m 273 #[.val (.int p0), .val (.int p1), .val (.int p2), .val (.int (own_c0 p0)), .val (.int (own_c1 p0)), .val (.int (own_c2 p0)), .val (.int (own_c3 p0)), .val (.ref b1), .val (.int (own_cn p2)), .val (.int (((p2.toUInt32 >>> ((3 : Int32) &&& 31).toUInt32).toInt32) &&& (3 : Int32))), .val (.ref nm), .val (.int kx), .val (.int (1 : Int32)), .val (.int (-1 : Int32))] [(.int (3 : Int32)), (.int (own_cn p2))])) t
                      refine XS.icmpYes X9.here hx rfl (pc0 := 273) (pc' := 286) rfl (hb hby at_273) rfl (flt hc273).2.2.2 (by decide) (by decide) ?_
                      exact kt
                    refine OGo.step (F' := T9.setTop (mkF m 292 #[.val (.int p0), .val (.int p1), .val (.int p2), .val (.int (own_c0 p0)), .val (.int (own_c1 p0)), .val (.int (own_c2 p0)), .val (.int (own_c3 p0)), .val (.ref b1), .val (.int (own_cn p2)), .val (.int (((p2.toUInt32 >>> ((3 : Int32) &&& 31).toUInt32).toInt32) &&& (3 : Int32))), .val (.ref nm), .val (.int kx), .val (.int (1 : Int32)), .val (.int (-1 : Int32))] [(.ref nm), (.int (own_cn p2)), (.ref b1)])) (fun t kt => ?_) ?_
                    · show Steps p.tables e below (T9.setTop (mkF m 286 #[.val (.int p0), .val (.int p1), .val (.int p2), .val (.int (own_c0 p0)), .val (.int (own_c1 p0)), .val (.int (own_c2 p0)), .val (.int (own_c3 p0)), .val (.ref b1), .val (.int (own_cn p2)), .val (.int (((p2.toUInt32 >>> ((3 : Int32) &&& 31).toUInt32).toInt32) &&& (3 : Int32))), .val (.ref nm), .val (.int kx), .val (.int (1 : Int32)), .val (.int (-1 : Int32))] [])) t
                      refine XS.aload X9.here hx rfl (hb hby at_286) rfl rfl ?_
                      refine XS.iload X9.here hx rfl (hb hby at_288) rfl ?_
                      refine XS.aload X9.here hx rfl (hb hby at_290) rfl rfl ?_
                      exact kt
                    refine OGo.callS X9 hx hZ (y := (⟨"com/example/kette/kette/JsonObject", "walk", "([Ljava/lang/String;ILjava/lang/Object;)I"⟩ : MethodName)) hown (own_wd hw 28 rfl) (own_wd hw 29 rfl) (own_wd hw 30 rfl) (own_wd hw 31 rfl) (by decide) (rm6 l Z az hw [] b1 (own_cn p2) nm k1 b2_r b4_r b6_r b8_r b2_t b4_t b6_t b8_t (own_by (own_ch (own_c0 p0))) (own_by (own_ch (own_c1 p0))) (own_by (own_ch (own_c2 p0))) (own_by (own_ch (own_c3 p0))) tn (own_by (own_ch kx)) w_COMPACT_STRINGS h9 n0 (Nat.le_trans Z0 KC9.1) V9 Z10_5 Z10_6 Z10_7 Z10_8 Z10_9 Z10_10 Z10_11 Z10_12 Z10_13 Z10_14 Z10_15 Z10_16 Z10_17 Z10_18 Z10_19 Z10_20 E_nm Fv_nm Fc_nm O_tn hC (own_cnt _) Z10_4) (W := 0) (by decide) (by decide) (g := (mkF m 292 #[.val (.int p0), .val (.int p1), .val (.int p2), .val (.int (own_c0 p0)), .val (.int (own_c1 p0)), .val (.int (own_c2 p0)), .val (.int (own_c3 p0)), .val (.ref b1), .val (.int (own_cn p2)), .val (.int (((p2.toUInt32 >>> ((3 : Int32) &&& 31).toUInt32).toInt32) &&& (3 : Int32))), .val (.ref nm), .val (.int kx), .val (.int (1 : Int32)), .val (.int (-1 : Int32))] [(.ref nm), (.int (own_cn p2)), (.ref b1)])) rfl (by rw [hml]; rfl) (argsL := [(.ref b1), (.int (own_cn p2)), (.ref nm)]) (rest := []) (lenOf pd_0_1 rfl) rfl (by show 2 * 0 + _ ≤ _; exact Nat.le_of_eq rfl) (hb hby at_292) rfl e9 (by decide) (by decide) ?_
                    rintro _ T55 L55 X55 ⟨rfl, Nq55, e55⟩
                    have N55 := Fr.app N9 Nq55
                    show OGo _ _ _ _ _ _ _ (T55.setTop (mkF m 295 #[.val (.int p0), .val (.int p1), .val (.int p2), .val (.int (own_c0 p0)), .val (.int (own_c1 p0)), .val (.int (own_c2 p0)), .val (.int (own_c3 p0)), .val (.ref b1), .val (.int (own_cn p2)), .val (.int (((p2.toUInt32 >>> ((3 : Int32) &&& 31).toUInt32).toInt32) &&& (3 : Int32))), .val (.ref nm), .val (.int kx), .val (.int (1 : Int32)), .val (.int (-1 : Int32))] [(.int (f6 (own_cn p2) nm b2_r b4_r b6_r b8_r (own_by (own_ch (own_c0 p0))) (own_by (own_ch (own_c1 p0))) (own_by (own_ch (own_c2 p0))) (own_by (own_ch (own_c3 p0))) (own_by (own_ch kx))))]))
                    refine OGo.step (F' := T55.setTop (mkF m 305 #[.val (.int p0), .val (.int p1), .val (.int p2), .val (.int (own_c0 p0)), .val (.int (own_c1 p0)), .val (.int (own_c2 p0)), .val (.int (own_c3 p0)), .val (.ref b1), .val (.int (own_cn p2)), .val (.int (((p2.toUInt32 >>> ((3 : Int32) &&& 31).toUInt32).toInt32) &&& (3 : Int32))), .val (.ref nm), .val (.int kx), .val (.int (1 : Int32)), .val (.int (-1 : Int32))] [(.int (1 : Int32))])) (fun t kt => ?_) ?_
                    · show Steps p.tables e below (T55.setTop (mkF m 295 #[.val (.int p0), .val (.int p1), .val (.int p2), .val (.int (own_c0 p0)), .val (.int (own_c1 p0)), .val (.int (own_c2 p0)), .val (.int (own_c3 p0)), .val (.ref b1), .val (.int (own_cn p2)), .val (.int (((p2.toUInt32 >>> ((3 : Int32) &&& 31).toUInt32).toInt32) &&& (3 : Int32))), .val (.ref nm), .val (.int kx), .val (.int (1 : Int32)), .val (.int (-1 : Int32))] [(.int (f6 (own_cn p2) nm b2_r b4_r b6_r b8_r (own_by (own_ch (own_c0 p0))) (own_by (own_ch (own_c1 p0))) (own_by (own_ch (own_c2 p0))) (own_by (own_ch (own_c3 p0))) (own_by (own_ch kx))))])) t
                      refine XS.iload X55.here hx rfl (hb hby at_295) rfl ?_
                      refine XS.icmpNo X55.here hx rfl (hb hby at_297) rfl (teq (by rw [own_fin _ (own_c0 p0) (own_c1 p0) (own_c2 p0) (own_c3 p0) kx _ _ _ _ _ _ _ _ _ _ (own_e _ _ _ _ (own_r0 _) hkx hal0) (own_e _ _ _ _ (own_r1 _) hkx hal1) (own_e _ _ _ _ (own_r2 _) hkx hal2) (own_e _ _ _ _ (own_r3 _) hkx hal3) (own_cnt _), own_exp, if_neg (fun q => hc223 q.2), if_neg (fun q => hc235 q.1), if_neg (fun q => hc261 q.2), if_neg (fun q => hc273 q.1)])).2 ?_
                      refine XS.iconst X55.here hx rfl (hb hby at_300) ?_
                      refine XS.goto X55.here hx rfl (pc0 := 301) (pc' := 305) rfl (hb hby at_301) (by decide) (by decide) ?_
                      exact kt
                    refine OGo.retZ X55 hx hlk (t := .boolean) (z' := (1 : Int32)) hret (by simp) (hb hby at_305) rfl ?_ (by decide) (by decide)
                    show Q0 Z p0 p1 p2 w_high w_cache w_COMPACT_STRINGS h0 n0 _ T55.heap _
                    rw [e55]
                    exact ⟨rfl, N55, KC9⟩
              · refine OGo.step (F' := T9.setTop (mkF m 270 #[.val (.int p0), .val (.int p1), .val (.int p2), .val (.int (own_c0 p0)), .val (.int (own_c1 p0)), .val (.int (own_c2 p0)), .val (.int (own_c3 p0)), .val (.ref b1), .val (.int (own_cn p2)), .val (.int (((p2.toUInt32 >>> ((3 : Int32) &&& 31).toUInt32).toInt32) &&& (3 : Int32))), .val (.ref nm), .val (.int kx), .val (.int (1 : Int32)), .val (.int (-1 : Int32))] [])) (fun t kt => ?_) ?_
                · show Steps p.tables e below (T9.setTop (mkF m 254 #[.val (.int p0), .val (.int p1), .val (.int p2), .val (.int (own_c0 p0)), .val (.int (own_c1 p0)), .val (.int (own_c2 p0)), .val (.int (own_c3 p0)), .val (.ref b1), .val (.int (own_cn p2)), .val (.int (((p2.toUInt32 >>> ((3 : Int32) &&& 31).toUInt32).toInt32) &&& (3 : Int32))), .val (.ref nm), .val (.int kx), .val (.int (1 : Int32)), .val (.int (-1 : Int32))] [(.int (2 : Int32)), (.int (own_cn p2))])) t
                  refine XS.icmpYes X9.here hx rfl (pc0 := 254) (pc' := 270) rfl (hb hby at_254) rfl (flt hc254).2.2.2 (by decide) (by decide) ?_
                  exact kt
                refine OGo.step (F' := T9.setTop (mkF m 273 #[.val (.int p0), .val (.int p1), .val (.int p2), .val (.int (own_c0 p0)), .val (.int (own_c1 p0)), .val (.int (own_c2 p0)), .val (.int (own_c3 p0)), .val (.ref b1), .val (.int (own_cn p2)), .val (.int (((p2.toUInt32 >>> ((3 : Int32) &&& 31).toUInt32).toInt32) &&& (3 : Int32))), .val (.ref nm), .val (.int kx), .val (.int (1 : Int32)), .val (.int (-1 : Int32))] [(.int (3 : Int32)), (.int (own_cn p2))])) (fun t kt => ?_) ?_
                · show Steps p.tables e below (T9.setTop (mkF m 270 #[.val (.int p0), .val (.int p1), .val (.int p2), .val (.int (own_c0 p0)), .val (.int (own_c1 p0)), .val (.int (own_c2 p0)), .val (.int (own_c3 p0)), .val (.ref b1), .val (.int (own_cn p2)), .val (.int (((p2.toUInt32 >>> ((3 : Int32) &&& 31).toUInt32).toInt32) &&& (3 : Int32))), .val (.ref nm), .val (.int kx), .val (.int (1 : Int32)), .val (.int (-1 : Int32))] [])) t
                  refine XS.iload X9.here hx rfl (hb hby at_270) rfl ?_
                  refine XS.iconst X9.here hx rfl (hb hby at_272) ?_
                  exact kt
                by_cases hc273 : (3 : Int32) < (own_cn p2)
                · refine OGo.step (F' := T9.setTop (mkF m 276 #[.val (.int p0), .val (.int p1), .val (.int p2), .val (.int (own_c0 p0)), .val (.int (own_c1 p0)), .val (.int (own_c2 p0)), .val (.int (own_c3 p0)), .val (.ref b1), .val (.int (own_cn p2)), .val (.int (((p2.toUInt32 >>> ((3 : Int32) &&& 31).toUInt32).toInt32) &&& (3 : Int32))), .val (.ref nm), .val (.int kx), .val (.int (1 : Int32)), .val (.int (-1 : Int32))] [])) (fun t kt => ?_) ?_
                  · show Steps p.tables e below (T9.setTop (mkF m 273 #[.val (.int p0), .val (.int p1), .val (.int p2), .val (.int (own_c0 p0)), .val (.int (own_c1 p0)), .val (.int (own_c2 p0)), .val (.int (own_c3 p0)), .val (.ref b1), .val (.int (own_cn p2)), .val (.int (((p2.toUInt32 >>> ((3 : Int32) &&& 31).toUInt32).toInt32) &&& (3 : Int32))), .val (.ref nm), .val (.int kx), .val (.int (1 : Int32)), .val (.int (-1 : Int32))] [(.int (3 : Int32)), (.int (own_cn p2))])) t
                    refine XS.icmpNo X9.here hx rfl (hb hby at_273) rfl (tlt hc273).2.2.2 ?_
                    exact kt
                  refine OGo.step (F' := T9.setTop (mkF m 280 #[.val (.int p0), .val (.int p1), .val (.int p2), .val (.int (own_c0 p0)), .val (.int (own_c1 p0)), .val (.int (own_c2 p0)), .val (.int (own_c3 p0)), .val (.ref b1), .val (.int (own_cn p2)), .val (.int (((p2.toUInt32 >>> ((3 : Int32) &&& 31).toUInt32).toInt32) &&& (3 : Int32))), .val (.ref nm), .val (.int kx), .val (.int (1 : Int32)), .val (.int (-1 : Int32))] [(.int kx), (.int (own_c3 p0))])) (fun t kt => ?_) ?_
                  · show Steps p.tables e below (T9.setTop (mkF m 276 #[.val (.int p0), .val (.int p1), .val (.int p2), .val (.int (own_c0 p0)), .val (.int (own_c1 p0)), .val (.int (own_c2 p0)), .val (.int (own_c3 p0)), .val (.ref b1), .val (.int (own_cn p2)), .val (.int (((p2.toUInt32 >>> ((3 : Int32) &&& 31).toUInt32).toInt32) &&& (3 : Int32))), .val (.ref nm), .val (.int kx), .val (.int (1 : Int32)), .val (.int (-1 : Int32))] [])) t
                    refine XS.iload X9.here hx rfl (hb hby at_276) rfl ?_
                    refine XS.iload X9.here hx rfl (hb hby at_278) rfl ?_
                    exact kt
                  by_cases hc280 : (own_c3 p0) = kx
                  · refine OGo.step (F' := T9.setTop (mkF m 283 #[.val (.int p0), .val (.int p1), .val (.int p2), .val (.int (own_c0 p0)), .val (.int (own_c1 p0)), .val (.int (own_c2 p0)), .val (.int (own_c3 p0)), .val (.ref b1), .val (.int (own_cn p2)), .val (.int (((p2.toUInt32 >>> ((3 : Int32) &&& 31).toUInt32).toInt32) &&& (3 : Int32))), .val (.ref nm), .val (.int kx), .val (.int (1 : Int32)), .val (.int (-1 : Int32))] [])) (fun t kt => ?_) ?_
                    · show Steps p.tables e below (T9.setTop (mkF m 280 #[.val (.int p0), .val (.int p1), .val (.int p2), .val (.int (own_c0 p0)), .val (.int (own_c1 p0)), .val (.int (own_c2 p0)), .val (.int (own_c3 p0)), .val (.ref b1), .val (.int (own_cn p2)), .val (.int (((p2.toUInt32 >>> ((3 : Int32) &&& 31).toUInt32).toInt32) &&& (3 : Int32))), .val (.ref nm), .val (.int kx), .val (.int (1 : Int32)), .val (.int (-1 : Int32))] [(.int kx), (.int (own_c3 p0))])) t
                      refine XS.icmpNo X9.here hx rfl (hb hby at_280) rfl (teq hc280).2 ?_
                      exact kt
                    refine OGo.step (F' := T9.setTop (mkF m 292 #[.val (.int p0), .val (.int p1), .val (.int p2), .val (.int (own_c0 p0)), .val (.int (own_c1 p0)), .val (.int (own_c2 p0)), .val (.int (own_c3 p0)), .val (.ref b1), .val (.int (own_cn p2)), .val (.int (((p2.toUInt32 >>> ((3 : Int32) &&& 31).toUInt32).toInt32) &&& (3 : Int32))), .val (.ref nm), .val (.int kx), .val (.int (1 : Int32)), .val (.int (3 : Int32))] [(.ref nm), (.int (own_cn p2)), (.ref b1)])) (fun t kt => ?_) ?_
                    · show Steps p.tables e below (T9.setTop (mkF m 283 #[.val (.int p0), .val (.int p1), .val (.int p2), .val (.int (own_c0 p0)), .val (.int (own_c1 p0)), .val (.int (own_c2 p0)), .val (.int (own_c3 p0)), .val (.ref b1), .val (.int (own_cn p2)), .val (.int (((p2.toUInt32 >>> ((3 : Int32) &&& 31).toUInt32).toInt32) &&& (3 : Int32))), .val (.ref nm), .val (.int kx), .val (.int (1 : Int32)), .val (.int (-1 : Int32))] [])) t
                      refine XS.iconst X9.here hx rfl (hb hby at_283) ?_
                      refine XS.istore X9.here hx rfl (hb hby at_284) rfl (l' := #[.val (.int p0), .val (.int p1), .val (.int p2), .val (.int (own_c0 p0)), .val (.int (own_c1 p0)), .val (.int (own_c2 p0)), .val (.int (own_c3 p0)), .val (.ref b1), .val (.int (own_cn p2)), .val (.int (((p2.toUInt32 >>> ((3 : Int32) &&& 31).toUInt32).toInt32) &&& (3 : Int32))), .val (.ref nm), .val (.int kx), .val (.int (1 : Int32)), .val (.int (3 : Int32))]) rfl ?_
                      refine XS.aload X9.here hx rfl (hb hby at_286) rfl rfl ?_
                      refine XS.iload X9.here hx rfl (hb hby at_288) rfl ?_
                      refine XS.aload X9.here hx rfl (hb hby at_290) rfl rfl ?_
                      exact kt
                    refine OGo.callS X9 hx hZ (y := (⟨"com/example/kette/kette/JsonObject", "walk", "([Ljava/lang/String;ILjava/lang/Object;)I"⟩ : MethodName)) hown (own_wd hw 28 rfl) (own_wd hw 29 rfl) (own_wd hw 30 rfl) (own_wd hw 31 rfl) (by decide) (rm6 l Z az hw [] b1 (own_cn p2) nm k1 b2_r b4_r b6_r b8_r b2_t b4_t b6_t b8_t (own_by (own_ch (own_c0 p0))) (own_by (own_ch (own_c1 p0))) (own_by (own_ch (own_c2 p0))) (own_by (own_ch (own_c3 p0))) tn (own_by (own_ch kx)) w_COMPACT_STRINGS h9 n0 (Nat.le_trans Z0 KC9.1) V9 Z10_5 Z10_6 Z10_7 Z10_8 Z10_9 Z10_10 Z10_11 Z10_12 Z10_13 Z10_14 Z10_15 Z10_16 Z10_17 Z10_18 Z10_19 Z10_20 E_nm Fv_nm Fc_nm O_tn hC (own_cnt _) Z10_4) (W := 0) (by decide) (by decide) (g := (mkF m 292 #[.val (.int p0), .val (.int p1), .val (.int p2), .val (.int (own_c0 p0)), .val (.int (own_c1 p0)), .val (.int (own_c2 p0)), .val (.int (own_c3 p0)), .val (.ref b1), .val (.int (own_cn p2)), .val (.int (((p2.toUInt32 >>> ((3 : Int32) &&& 31).toUInt32).toInt32) &&& (3 : Int32))), .val (.ref nm), .val (.int kx), .val (.int (1 : Int32)), .val (.int (3 : Int32))] [(.ref nm), (.int (own_cn p2)), (.ref b1)])) rfl (by rw [hml]; rfl) (argsL := [(.ref b1), (.int (own_cn p2)), (.ref nm)]) (rest := []) (lenOf pd_0_1 rfl) rfl (by show 2 * 0 + _ ≤ _; exact Nat.le_of_eq rfl) (hb hby at_292) rfl e9 (by decide) (by decide) ?_
                    rintro _ T56 L56 X56 ⟨rfl, Nq56, e56⟩
                    have N56 := Fr.app N9 Nq56
                    show OGo _ _ _ _ _ _ _ (T56.setTop (mkF m 295 #[.val (.int p0), .val (.int p1), .val (.int p2), .val (.int (own_c0 p0)), .val (.int (own_c1 p0)), .val (.int (own_c2 p0)), .val (.int (own_c3 p0)), .val (.ref b1), .val (.int (own_cn p2)), .val (.int (((p2.toUInt32 >>> ((3 : Int32) &&& 31).toUInt32).toInt32) &&& (3 : Int32))), .val (.ref nm), .val (.int kx), .val (.int (1 : Int32)), .val (.int (3 : Int32))] [(.int (f6 (own_cn p2) nm b2_r b4_r b6_r b8_r (own_by (own_ch (own_c0 p0))) (own_by (own_ch (own_c1 p0))) (own_by (own_ch (own_c2 p0))) (own_by (own_ch (own_c3 p0))) (own_by (own_ch kx))))]))
                    refine OGo.step (F' := T56.setTop (mkF m 305 #[.val (.int p0), .val (.int p1), .val (.int p2), .val (.int (own_c0 p0)), .val (.int (own_c1 p0)), .val (.int (own_c2 p0)), .val (.int (own_c3 p0)), .val (.ref b1), .val (.int (own_cn p2)), .val (.int (((p2.toUInt32 >>> ((3 : Int32) &&& 31).toUInt32).toInt32) &&& (3 : Int32))), .val (.ref nm), .val (.int kx), .val (.int (1 : Int32)), .val (.int (3 : Int32))] [(.int (1 : Int32))])) (fun t kt => ?_) ?_
                    · show Steps p.tables e below (T56.setTop (mkF m 295 #[.val (.int p0), .val (.int p1), .val (.int p2), .val (.int (own_c0 p0)), .val (.int (own_c1 p0)), .val (.int (own_c2 p0)), .val (.int (own_c3 p0)), .val (.ref b1), .val (.int (own_cn p2)), .val (.int (((p2.toUInt32 >>> ((3 : Int32) &&& 31).toUInt32).toInt32) &&& (3 : Int32))), .val (.ref nm), .val (.int kx), .val (.int (1 : Int32)), .val (.int (3 : Int32))] [(.int (f6 (own_cn p2) nm b2_r b4_r b6_r b8_r (own_by (own_ch (own_c0 p0))) (own_by (own_ch (own_c1 p0))) (own_by (own_ch (own_c2 p0))) (own_by (own_ch (own_c3 p0))) (own_by (own_ch kx))))])) t
                      refine XS.iload X56.here hx rfl (hb hby at_295) rfl ?_
                      refine XS.icmpNo X56.here hx rfl (hb hby at_297) rfl (teq (by rw [own_fin _ (own_c0 p0) (own_c1 p0) (own_c2 p0) (own_c3 p0) kx _ _ _ _ _ _ _ _ _ _ (own_e _ _ _ _ (own_r0 _) hkx hal0) (own_e _ _ _ _ (own_r1 _) hkx hal1) (own_e _ _ _ _ (own_r2 _) hkx hal2) (own_e _ _ _ _ (own_r3 _) hkx hal3) (own_cnt _), own_exp, if_neg (fun q => hc223 q.2), if_neg (fun q => hc235 q.1), if_neg (fun q => hc254 q.1), if_pos ⟨hc273, hc280⟩])).2 ?_
                      refine XS.iconst X56.here hx rfl (hb hby at_300) ?_
                      refine XS.goto X56.here hx rfl (pc0 := 301) (pc' := 305) rfl (hb hby at_301) (by decide) (by decide) ?_
                      exact kt
                    refine OGo.retZ X56 hx hlk (t := .boolean) (z' := (1 : Int32)) hret (by simp) (hb hby at_305) rfl ?_ (by decide) (by decide)
                    show Q0 Z p0 p1 p2 w_high w_cache w_COMPACT_STRINGS h0 n0 _ T56.heap _
                    rw [e56]
                    exact ⟨rfl, N56, KC9⟩
                  · refine OGo.step (F' := T9.setTop (mkF m 286 #[.val (.int p0), .val (.int p1), .val (.int p2), .val (.int (own_c0 p0)), .val (.int (own_c1 p0)), .val (.int (own_c2 p0)), .val (.int (own_c3 p0)), .val (.ref b1), .val (.int (own_cn p2)), .val (.int (((p2.toUInt32 >>> ((3 : Int32) &&& 31).toUInt32).toInt32) &&& (3 : Int32))), .val (.ref nm), .val (.int kx), .val (.int (1 : Int32)), .val (.int (-1 : Int32))] [])) (fun t kt => ?_) ?_
                    · show Steps p.tables e below (T9.setTop (mkF m 280 #[.val (.int p0), .val (.int p1), .val (.int p2), .val (.int (own_c0 p0)), .val (.int (own_c1 p0)), .val (.int (own_c2 p0)), .val (.int (own_c3 p0)), .val (.ref b1), .val (.int (own_cn p2)), .val (.int (((p2.toUInt32 >>> ((3 : Int32) &&& 31).toUInt32).toInt32) &&& (3 : Int32))), .val (.ref nm), .val (.int kx), .val (.int (1 : Int32)), .val (.int (-1 : Int32))] [(.int kx), (.int (own_c3 p0))])) t
                      refine XS.icmpYes X9.here hx rfl (pc0 := 280) (pc' := 286) rfl (hb hby at_280) rfl (feq hc280).2 (by decide) (by decide) ?_
                      exact kt
                    refine OGo.step (F' := T9.setTop (mkF m 292 #[.val (.int p0), .val (.int p1), .val (.int p2), .val (.int (own_c0 p0)), .val (.int (own_c1 p0)), .val (.int (own_c2 p0)), .val (.int (own_c3 p0)), .val (.ref b1), .val (.int (own_cn p2)), .val (.int (((p2.toUInt32 >>> ((3 : Int32) &&& 31).toUInt32).toInt32) &&& (3 : Int32))), .val (.ref nm), .val (.int kx), .val (.int (1 : Int32)), .val (.int (-1 : Int32))] [(.ref nm), (.int (own_cn p2)), (.ref b1)])) (fun t kt => ?_) ?_
                    · show Steps p.tables e below (T9.setTop (mkF m 286 #[.val (.int p0), .val (.int p1), .val (.int p2), .val (.int (own_c0 p0)), .val (.int (own_c1 p0)), .val (.int (own_c2 p0)), .val (.int (own_c3 p0)), .val (.ref b1), .val (.int (own_cn p2)), .val (.int (((p2.toUInt32 >>> ((3 : Int32) &&& 31).toUInt32).toInt32) &&& (3 : Int32))), .val (.ref nm), .val (.int kx), .val (.int (1 : Int32)), .val (.int (-1 : Int32))] [])) t
                      refine XS.aload X9.here hx rfl (hb hby at_286) rfl rfl ?_
                      refine XS.iload X9.here hx rfl (hb hby at_288) rfl ?_
                      refine XS.aload X9.here hx rfl (hb hby at_290) rfl rfl ?_
                      exact kt
                    refine OGo.callS X9 hx hZ (y := (⟨"com/example/kette/kette/JsonObject", "walk", "([Ljava/lang/String;ILjava/lang/Object;)I"⟩ : MethodName)) hown (own_wd hw 28 rfl) (own_wd hw 29 rfl) (own_wd hw 30 rfl) (own_wd hw 31 rfl) (by decide) (rm6 l Z az hw [] b1 (own_cn p2) nm k1 b2_r b4_r b6_r b8_r b2_t b4_t b6_t b8_t (own_by (own_ch (own_c0 p0))) (own_by (own_ch (own_c1 p0))) (own_by (own_ch (own_c2 p0))) (own_by (own_ch (own_c3 p0))) tn (own_by (own_ch kx)) w_COMPACT_STRINGS h9 n0 (Nat.le_trans Z0 KC9.1) V9 Z10_5 Z10_6 Z10_7 Z10_8 Z10_9 Z10_10 Z10_11 Z10_12 Z10_13 Z10_14 Z10_15 Z10_16 Z10_17 Z10_18 Z10_19 Z10_20 E_nm Fv_nm Fc_nm O_tn hC (own_cnt _) Z10_4) (W := 0) (by decide) (by decide) (g := (mkF m 292 #[.val (.int p0), .val (.int p1), .val (.int p2), .val (.int (own_c0 p0)), .val (.int (own_c1 p0)), .val (.int (own_c2 p0)), .val (.int (own_c3 p0)), .val (.ref b1), .val (.int (own_cn p2)), .val (.int (((p2.toUInt32 >>> ((3 : Int32) &&& 31).toUInt32).toInt32) &&& (3 : Int32))), .val (.ref nm), .val (.int kx), .val (.int (1 : Int32)), .val (.int (-1 : Int32))] [(.ref nm), (.int (own_cn p2)), (.ref b1)])) rfl (by rw [hml]; rfl) (argsL := [(.ref b1), (.int (own_cn p2)), (.ref nm)]) (rest := []) (lenOf pd_0_1 rfl) rfl (by show 2 * 0 + _ ≤ _; exact Nat.le_of_eq rfl) (hb hby at_292) rfl e9 (by decide) (by decide) ?_
                    rintro _ T57 L57 X57 ⟨rfl, Nq57, e57⟩
                    have N57 := Fr.app N9 Nq57
                    show OGo _ _ _ _ _ _ _ (T57.setTop (mkF m 295 #[.val (.int p0), .val (.int p1), .val (.int p2), .val (.int (own_c0 p0)), .val (.int (own_c1 p0)), .val (.int (own_c2 p0)), .val (.int (own_c3 p0)), .val (.ref b1), .val (.int (own_cn p2)), .val (.int (((p2.toUInt32 >>> ((3 : Int32) &&& 31).toUInt32).toInt32) &&& (3 : Int32))), .val (.ref nm), .val (.int kx), .val (.int (1 : Int32)), .val (.int (-1 : Int32))] [(.int (f6 (own_cn p2) nm b2_r b4_r b6_r b8_r (own_by (own_ch (own_c0 p0))) (own_by (own_ch (own_c1 p0))) (own_by (own_ch (own_c2 p0))) (own_by (own_ch (own_c3 p0))) (own_by (own_ch kx))))]))
                    refine OGo.step (F' := T57.setTop (mkF m 305 #[.val (.int p0), .val (.int p1), .val (.int p2), .val (.int (own_c0 p0)), .val (.int (own_c1 p0)), .val (.int (own_c2 p0)), .val (.int (own_c3 p0)), .val (.ref b1), .val (.int (own_cn p2)), .val (.int (((p2.toUInt32 >>> ((3 : Int32) &&& 31).toUInt32).toInt32) &&& (3 : Int32))), .val (.ref nm), .val (.int kx), .val (.int (1 : Int32)), .val (.int (-1 : Int32))] [(.int (1 : Int32))])) (fun t kt => ?_) ?_
                    · show Steps p.tables e below (T57.setTop (mkF m 295 #[.val (.int p0), .val (.int p1), .val (.int p2), .val (.int (own_c0 p0)), .val (.int (own_c1 p0)), .val (.int (own_c2 p0)), .val (.int (own_c3 p0)), .val (.ref b1), .val (.int (own_cn p2)), .val (.int (((p2.toUInt32 >>> ((3 : Int32) &&& 31).toUInt32).toInt32) &&& (3 : Int32))), .val (.ref nm), .val (.int kx), .val (.int (1 : Int32)), .val (.int (-1 : Int32))] [(.int (f6 (own_cn p2) nm b2_r b4_r b6_r b8_r (own_by (own_ch (own_c0 p0))) (own_by (own_ch (own_c1 p0))) (own_by (own_ch (own_c2 p0))) (own_by (own_ch (own_c3 p0))) (own_by (own_ch kx))))])) t
                      refine XS.iload X57.here hx rfl (hb hby at_295) rfl ?_
                      refine XS.icmpNo X57.here hx rfl (hb hby at_297) rfl (teq (by rw [own_fin _ (own_c0 p0) (own_c1 p0) (own_c2 p0) (own_c3 p0) kx _ _ _ _ _ _ _ _ _ _ (own_e _ _ _ _ (own_r0 _) hkx hal0) (own_e _ _ _ _ (own_r1 _) hkx hal1) (own_e _ _ _ _ (own_r2 _) hkx hal2) (own_e _ _ _ _ (own_r3 _) hkx hal3) (own_cnt _), own_exp, if_neg (fun q => hc223 q.2), if_neg (fun q => hc235 q.1), if_neg (fun q => hc254 q.1), if_neg (fun q => hc280 q.2)])).2 ?_
                      refine XS.iconst X57.here hx rfl (hb hby at_300) ?_
                      refine XS.goto X57.here hx rfl (pc0 := 301) (pc' := 305) rfl (hb hby at_301) (by decide) (by decide) ?_
                      exact kt
                    refine OGo.retZ X57 hx hlk (t := .boolean) (z' := (1 : Int32)) hret (by simp) (hb hby at_305) rfl ?_ (by decide) (by decide)
                    show Q0 Z p0 p1 p2 w_high w_cache w_COMPACT_STRINGS h0 n0 _ T57.heap _
                    rw [e57]
                    exact ⟨rfl, N57, KC9⟩
                · refine OGo.step (F' := T9.setTop (mkF m 286 #[.val (.int p0), .val (.int p1), .val (.int p2), .val (.int (own_c0 p0)), .val (.int (own_c1 p0)), .val (.int (own_c2 p0)), .val (.int (own_c3 p0)), .val (.ref b1), .val (.int (own_cn p2)), .val (.int (((p2.toUInt32 >>> ((3 : Int32) &&& 31).toUInt32).toInt32) &&& (3 : Int32))), .val (.ref nm), .val (.int kx), .val (.int (1 : Int32)), .val (.int (-1 : Int32))] [])) (fun t kt => ?_) ?_
                  · show Steps p.tables e below (T9.setTop (mkF m 273 #[.val (.int p0), .val (.int p1), .val (.int p2), .val (.int (own_c0 p0)), .val (.int (own_c1 p0)), .val (.int (own_c2 p0)), .val (.int (own_c3 p0)), .val (.ref b1), .val (.int (own_cn p2)), .val (.int (((p2.toUInt32 >>> ((3 : Int32) &&& 31).toUInt32).toInt32) &&& (3 : Int32))), .val (.ref nm), .val (.int kx), .val (.int (1 : Int32)), .val (.int (-1 : Int32))] [(.int (3 : Int32)), (.int (own_cn p2))])) t
                    refine XS.icmpYes X9.here hx rfl (pc0 := 273) (pc' := 286) rfl (hb hby at_273) rfl (flt hc273).2.2.2 (by decide) (by decide) ?_
                    exact kt
                  refine OGo.step (F' := T9.setTop (mkF m 292 #[.val (.int p0), .val (.int p1), .val (.int p2), .val (.int (own_c0 p0)), .val (.int (own_c1 p0)), .val (.int (own_c2 p0)), .val (.int (own_c3 p0)), .val (.ref b1), .val (.int (own_cn p2)), .val (.int (((p2.toUInt32 >>> ((3 : Int32) &&& 31).toUInt32).toInt32) &&& (3 : Int32))), .val (.ref nm), .val (.int kx), .val (.int (1 : Int32)), .val (.int (-1 : Int32))] [(.ref nm), (.int (own_cn p2)), (.ref b1)])) (fun t kt => ?_) ?_
                  · show Steps p.tables e below (T9.setTop (mkF m 286 #[.val (.int p0), .val (.int p1), .val (.int p2), .val (.int (own_c0 p0)), .val (.int (own_c1 p0)), .val (.int (own_c2 p0)), .val (.int (own_c3 p0)), .val (.ref b1), .val (.int (own_cn p2)), .val (.int (((p2.toUInt32 >>> ((3 : Int32) &&& 31).toUInt32).toInt32) &&& (3 : Int32))), .val (.ref nm), .val (.int kx), .val (.int (1 : Int32)), .val (.int (-1 : Int32))] [])) t
                    refine XS.aload X9.here hx rfl (hb hby at_286) rfl rfl ?_
                    refine XS.iload X9.here hx rfl (hb hby at_288) rfl ?_
                    refine XS.aload X9.here hx rfl (hb hby at_290) rfl rfl ?_
                    exact kt
                  refine OGo.callS X9 hx hZ (y := (⟨"com/example/kette/kette/JsonObject", "walk", "([Ljava/lang/String;ILjava/lang/Object;)I"⟩ : MethodName)) hown (own_wd hw 28 rfl) (own_wd hw 29 rfl) (own_wd hw 30 rfl) (own_wd hw 31 rfl) (by decide) (rm6 l Z az hw [] b1 (own_cn p2) nm k1 b2_r b4_r b6_r b8_r b2_t b4_t b6_t b8_t (own_by (own_ch (own_c0 p0))) (own_by (own_ch (own_c1 p0))) (own_by (own_ch (own_c2 p0))) (own_by (own_ch (own_c3 p0))) tn (own_by (own_ch kx)) w_COMPACT_STRINGS h9 n0 (Nat.le_trans Z0 KC9.1) V9 Z10_5 Z10_6 Z10_7 Z10_8 Z10_9 Z10_10 Z10_11 Z10_12 Z10_13 Z10_14 Z10_15 Z10_16 Z10_17 Z10_18 Z10_19 Z10_20 E_nm Fv_nm Fc_nm O_tn hC (own_cnt _) Z10_4) (W := 0) (by decide) (by decide) (g := (mkF m 292 #[.val (.int p0), .val (.int p1), .val (.int p2), .val (.int (own_c0 p0)), .val (.int (own_c1 p0)), .val (.int (own_c2 p0)), .val (.int (own_c3 p0)), .val (.ref b1), .val (.int (own_cn p2)), .val (.int (((p2.toUInt32 >>> ((3 : Int32) &&& 31).toUInt32).toInt32) &&& (3 : Int32))), .val (.ref nm), .val (.int kx), .val (.int (1 : Int32)), .val (.int (-1 : Int32))] [(.ref nm), (.int (own_cn p2)), (.ref b1)])) rfl (by rw [hml]; rfl) (argsL := [(.ref b1), (.int (own_cn p2)), (.ref nm)]) (rest := []) (lenOf pd_0_1 rfl) rfl (by show 2 * 0 + _ ≤ _; exact Nat.le_of_eq rfl) (hb hby at_292) rfl e9 (by decide) (by decide) ?_
                  rintro _ T58 L58 X58 ⟨rfl, Nq58, e58⟩
                  have N58 := Fr.app N9 Nq58
                  show OGo _ _ _ _ _ _ _ (T58.setTop (mkF m 295 #[.val (.int p0), .val (.int p1), .val (.int p2), .val (.int (own_c0 p0)), .val (.int (own_c1 p0)), .val (.int (own_c2 p0)), .val (.int (own_c3 p0)), .val (.ref b1), .val (.int (own_cn p2)), .val (.int (((p2.toUInt32 >>> ((3 : Int32) &&& 31).toUInt32).toInt32) &&& (3 : Int32))), .val (.ref nm), .val (.int kx), .val (.int (1 : Int32)), .val (.int (-1 : Int32))] [(.int (f6 (own_cn p2) nm b2_r b4_r b6_r b8_r (own_by (own_ch (own_c0 p0))) (own_by (own_ch (own_c1 p0))) (own_by (own_ch (own_c2 p0))) (own_by (own_ch (own_c3 p0))) (own_by (own_ch kx))))]))
                  refine OGo.step (F' := T58.setTop (mkF m 305 #[.val (.int p0), .val (.int p1), .val (.int p2), .val (.int (own_c0 p0)), .val (.int (own_c1 p0)), .val (.int (own_c2 p0)), .val (.int (own_c3 p0)), .val (.ref b1), .val (.int (own_cn p2)), .val (.int (((p2.toUInt32 >>> ((3 : Int32) &&& 31).toUInt32).toInt32) &&& (3 : Int32))), .val (.ref nm), .val (.int kx), .val (.int (1 : Int32)), .val (.int (-1 : Int32))] [(.int (1 : Int32))])) (fun t kt => ?_) ?_
                  · show Steps p.tables e below (T58.setTop (mkF m 295 #[.val (.int p0), .val (.int p1), .val (.int p2), .val (.int (own_c0 p0)), .val (.int (own_c1 p0)), .val (.int (own_c2 p0)), .val (.int (own_c3 p0)), .val (.ref b1), .val (.int (own_cn p2)), .val (.int (((p2.toUInt32 >>> ((3 : Int32) &&& 31).toUInt32).toInt32) &&& (3 : Int32))), .val (.ref nm), .val (.int kx), .val (.int (1 : Int32)), .val (.int (-1 : Int32))] [(.int (f6 (own_cn p2) nm b2_r b4_r b6_r b8_r (own_by (own_ch (own_c0 p0))) (own_by (own_ch (own_c1 p0))) (own_by (own_ch (own_c2 p0))) (own_by (own_ch (own_c3 p0))) (own_by (own_ch kx))))])) t
                    refine XS.iload X58.here hx rfl (hb hby at_295) rfl ?_
                    refine XS.icmpNo X58.here hx rfl (hb hby at_297) rfl (teq (by rw [own_fin _ (own_c0 p0) (own_c1 p0) (own_c2 p0) (own_c3 p0) kx _ _ _ _ _ _ _ _ _ _ (own_e _ _ _ _ (own_r0 _) hkx hal0) (own_e _ _ _ _ (own_r1 _) hkx hal1) (own_e _ _ _ _ (own_r2 _) hkx hal2) (own_e _ _ _ _ (own_r3 _) hkx hal3) (own_cnt _), own_exp, if_neg (fun q => hc223 q.2), if_neg (fun q => hc235 q.1), if_neg (fun q => hc254 q.1), if_neg (fun q => hc273 q.1)])).2 ?_
                    refine XS.iconst X58.here hx rfl (hb hby at_300) ?_
                    refine XS.goto X58.here hx rfl (pc0 := 301) (pc' := 305) rfl (hb hby at_301) (by decide) (by decide) ?_
                    exact kt
                  refine OGo.retZ X58 hx hlk (t := .boolean) (z' := (1 : Int32)) hret (by simp) (hb hby at_305) rfl ?_ (by decide) (by decide)
                  show Q0 Z p0 p1 p2 w_high w_cache w_COMPACT_STRINGS h0 n0 _ T58.heap _
                  rw [e58]
                  exact ⟨rfl, N58, KC9⟩
        · refine OGo.step (F' := T9.setTop (mkF m 232 #[.val (.int p0), .val (.int p1), .val (.int p2), .val (.int (own_c0 p0)), .val (.int (own_c1 p0)), .val (.int (own_c2 p0)), .val (.int (own_c3 p0)), .val (.ref b1), .val (.int (own_cn p2)), .val (.int (((p2.toUInt32 >>> ((3 : Int32) &&& 31).toUInt32).toInt32) &&& (3 : Int32))), .val (.ref nm), .val (.int kx), .val (.int (1 : Int32)), .val (.int (-1 : Int32))] [])) (fun t kt => ?_) ?_
          · show Steps p.tables e below (T9.setTop (mkF m 217 #[.val (.int p0), .val (.int p1), .val (.int p2), .val (.int (own_c0 p0)), .val (.int (own_c1 p0)), .val (.int (own_c2 p0)), .val (.int (own_c3 p0)), .val (.ref b1), .val (.int (own_cn p2)), .val (.int (((p2.toUInt32 >>> ((3 : Int32) &&& 31).toUInt32).toInt32) &&& (3 : Int32))), .val (.ref nm), .val (.int kx), .val (.int (1 : Int32)), .val (.int (-1 : Int32))] [(.int (own_cn p2))])) t
            refine XS.ifYes X9.here hx rfl (pc0 := 217) (pc' := 232) rfl (hb hby at_217) rfl ((if0 _ _).trans (flt hc217).2.2.2) (by decide) (by decide) ?_
            exact kt
          refine OGo.step (F' := T9.setTop (mkF m 235 #[.val (.int p0), .val (.int p1), .val (.int p2), .val (.int (own_c0 p0)), .val (.int (own_c1 p0)), .val (.int (own_c2 p0)), .val (.int (own_c3 p0)), .val (.ref b1), .val (.int (own_cn p2)), .val (.int (((p2.toUInt32 >>> ((3 : Int32) &&& 31).toUInt32).toInt32) &&& (3 : Int32))), .val (.ref nm), .val (.int kx), .val (.int (1 : Int32)), .val (.int (-1 : Int32))] [(.int (1 : Int32)), (.int (own_cn p2))])) (fun t kt => ?_) ?_
          · show Steps p.tables e below (T9.setTop (mkF m 232 #[.val (.int p0), .val (.int p1), .val (.int p2), .val (.int (own_c0 p0)), .val (.int (own_c1 p0)), .val (.int (own_c2 p0)), .val (.int (own_c3 p0)), .val (.ref b1), .val (.int (own_cn p2)), .val (.int (((p2.toUInt32 >>> ((3 : Int32) &&& 31).toUInt32).toInt32) &&& (3 : Int32))), .val (.ref nm), .val (.int kx), .val (.int (1 : Int32)), .val (.int (-1 : Int32))] [])) t
            refine XS.iload X9.here hx rfl (hb hby at_232) rfl ?_
            refine XS.iconst X9.here hx rfl (hb hby at_234) ?_
            exact kt
          by_cases hc235 : (1 : Int32) < (own_cn p2)
          · refine OGo.step (F' := T9.setTop (mkF m 238 #[.val (.int p0), .val (.int p1), .val (.int p2), .val (.int (own_c0 p0)), .val (.int (own_c1 p0)), .val (.int (own_c2 p0)), .val (.int (own_c3 p0)), .val (.ref b1), .val (.int (own_cn p2)), .val (.int (((p2.toUInt32 >>> ((3 : Int32) &&& 31).toUInt32).toInt32) &&& (3 : Int32))), .val (.ref nm), .val (.int kx), .val (.int (1 : Int32)), .val (.int (-1 : Int32))] [])) (fun t kt => ?_) ?_
            · show Steps p.tables e below (T9.setTop (mkF m 235 #[.val (.int p0), .val (.int p1), .val (.int p2), .val (.int (own_c0 p0)), .val (.int (own_c1 p0)), .val (.int (own_c2 p0)), .val (.int (own_c3 p0)), .val (.ref b1), .val (.int (own_cn p2)), .val (.int (((p2.toUInt32 >>> ((3 : Int32) &&& 31).toUInt32).toInt32) &&& (3 : Int32))), .val (.ref nm), .val (.int kx), .val (.int (1 : Int32)), .val (.int (-1 : Int32))] [(.int (1 : Int32)), (.int (own_cn p2))])) t
              refine XS.icmpNo X9.here hx rfl (hb hby at_235) rfl (tlt hc235).2.2.2 ?_
              exact kt
            refine OGo.step (F' := T9.setTop (mkF m 242 #[.val (.int p0), .val (.int p1), .val (.int p2), .val (.int (own_c0 p0)), .val (.int (own_c1 p0)), .val (.int (own_c2 p0)), .val (.int (own_c3 p0)), .val (.ref b1), .val (.int (own_cn p2)), .val (.int (((p2.toUInt32 >>> ((3 : Int32) &&& 31).toUInt32).toInt32) &&& (3 : Int32))), .val (.ref nm), .val (.int kx), .val (.int (1 : Int32)), .val (.int (-1 : Int32))] [(.int kx), (.int (own_c1 p0))])) (fun t kt => ?_) ?_
            · show Steps p.tables e below (T9.setTop (mkF m 238 #[.val (.int p0), .val (.int p1), .val (.int p2), .val (.int (own_c0 p0)), .val (.int (own_c1 p0)), .val (.int (own_c2 p0)), .val (.int (own_c3 p0)), .val (.ref b1), .val (.int (own_cn p2)), .val (.int (((p2.toUInt32 >>> ((3 : Int32) &&& 31).toUInt32).toInt32) &&& (3 : Int32))), .val (.ref nm), .val (.int kx), .val (.int (1 : Int32)), .val (.int (-1 : Int32))] [])) t
              refine XS.iload X9.here hx rfl (hb hby at_238) rfl ?_
              refine XS.iload X9.here hx rfl (hb hby at_240) rfl ?_
              exact kt
            by_cases hc242 : (own_c1 p0) = kx
            · refine OGo.step (F' := T9.setTop (mkF m 245 #[.val (.int p0), .val (.int p1), .val (.int p2), .val (.int (own_c0 p0)), .val (.int (own_c1 p0)), .val (.int (own_c2 p0)), .val (.int (own_c3 p0)), .val (.ref b1), .val (.int (own_cn p2)), .val (.int (((p2.toUInt32 >>> ((3 : Int32) &&& 31).toUInt32).toInt32) &&& (3 : Int32))), .val (.ref nm), .val (.int kx), .val (.int (1 : Int32)), .val (.int (-1 : Int32))] [])) (fun t kt => ?_) ?_
              · show Steps p.tables e below (T9.setTop (mkF m 242 #[.val (.int p0), .val (.int p1), .val (.int p2), .val (.int (own_c0 p0)), .val (.int (own_c1 p0)), .val (.int (own_c2 p0)), .val (.int (own_c3 p0)), .val (.ref b1), .val (.int (own_cn p2)), .val (.int (((p2.toUInt32 >>> ((3 : Int32) &&& 31).toUInt32).toInt32) &&& (3 : Int32))), .val (.ref nm), .val (.int kx), .val (.int (1 : Int32)), .val (.int (-1 : Int32))] [(.int kx), (.int (own_c1 p0))])) t
                refine XS.icmpNo X9.here hx rfl (hb hby at_242) rfl (teq hc242).2 ?_
                exact kt
              refine OGo.step (F' := T9.setTop (mkF m 292 #[.val (.int p0), .val (.int p1), .val (.int p2), .val (.int (own_c0 p0)), .val (.int (own_c1 p0)), .val (.int (own_c2 p0)), .val (.int (own_c3 p0)), .val (.ref b1), .val (.int (own_cn p2)), .val (.int (((p2.toUInt32 >>> ((3 : Int32) &&& 31).toUInt32).toInt32) &&& (3 : Int32))), .val (.ref nm), .val (.int kx), .val (.int (1 : Int32)), .val (.int (1 : Int32))] [(.ref nm), (.int (own_cn p2)), (.ref b1)])) (fun t kt => ?_) ?_
              · show Steps p.tables e below (T9.setTop (mkF m 245 #[.val (.int p0), .val (.int p1), .val (.int p2), .val (.int (own_c0 p0)), .val (.int (own_c1 p0)), .val (.int (own_c2 p0)), .val (.int (own_c3 p0)), .val (.ref b1), .val (.int (own_cn p2)), .val (.int (((p2.toUInt32 >>> ((3 : Int32) &&& 31).toUInt32).toInt32) &&& (3 : Int32))), .val (.ref nm), .val (.int kx), .val (.int (1 : Int32)), .val (.int (-1 : Int32))] [])) t
                refine XS.iconst X9.here hx rfl (hb hby at_245) ?_
                refine XS.istore X9.here hx rfl (hb hby at_246) rfl (l' := #[.val (.int p0), .val (.int p1), .val (.int p2), .val (.int (own_c0 p0)), .val (.int (own_c1 p0)), .val (.int (own_c2 p0)), .val (.int (own_c3 p0)), .val (.ref b1), .val (.int (own_cn p2)), .val (.int (((p2.toUInt32 >>> ((3 : Int32) &&& 31).toUInt32).toInt32) &&& (3 : Int32))), .val (.ref nm), .val (.int kx), .val (.int (1 : Int32)), .val (.int (1 : Int32))]) rfl ?_
                refine XS.goto X9.here hx rfl (pc0 := 248) (pc' := 286) rfl (hb hby at_248) (by decide) (by decide) ?_
                refine XS.aload X9.here hx rfl (hb hby at_286) rfl rfl ?_
                refine XS.iload X9.here hx rfl (hb hby at_288) rfl ?_
                refine XS.aload X9.here hx rfl (hb hby at_290) rfl rfl ?_
                exact kt
              refine OGo.callS X9 hx hZ (y := (⟨"com/example/kette/kette/JsonObject", "walk", "([Ljava/lang/String;ILjava/lang/Object;)I"⟩ : MethodName)) hown (own_wd hw 28 rfl) (own_wd hw 29 rfl) (own_wd hw 30 rfl) (own_wd hw 31 rfl) (by decide) (rm6 l Z az hw [] b1 (own_cn p2) nm k1 b2_r b4_r b6_r b8_r b2_t b4_t b6_t b8_t (own_by (own_ch (own_c0 p0))) (own_by (own_ch (own_c1 p0))) (own_by (own_ch (own_c2 p0))) (own_by (own_ch (own_c3 p0))) tn (own_by (own_ch kx)) w_COMPACT_STRINGS h9 n0 (Nat.le_trans Z0 KC9.1) V9 Z10_5 Z10_6 Z10_7 Z10_8 Z10_9 Z10_10 Z10_11 Z10_12 Z10_13 Z10_14 Z10_15 Z10_16 Z10_17 Z10_18 Z10_19 Z10_20 E_nm Fv_nm Fc_nm O_tn hC (own_cnt _) Z10_4) (W := 0) (by decide) (by decide) (g := (mkF m 292 #[.val (.int p0), .val (.int p1), .val (.int p2), .val (.int (own_c0 p0)), .val (.int (own_c1 p0)), .val (.int (own_c2 p0)), .val (.int (own_c3 p0)), .val (.ref b1), .val (.int (own_cn p2)), .val (.int (((p2.toUInt32 >>> ((3 : Int32) &&& 31).toUInt32).toInt32) &&& (3 : Int32))), .val (.ref nm), .val (.int kx), .val (.int (1 : Int32)), .val (.int (1 : Int32))] [(.ref nm), (.int (own_cn p2)), (.ref b1)])) rfl (by rw [hml]; rfl) (argsL := [(.ref b1), (.int (own_cn p2)), (.ref nm)]) (rest := []) (lenOf pd_0_1 rfl) rfl (by show 2 * 0 + _ ≤ _; exact Nat.le_of_eq rfl) (hb hby at_292) rfl e9 (by decide) (by decide) ?_
              rintro _ T59 L59 X59 ⟨rfl, Nq59, e59⟩
              have N59 := Fr.app N9 Nq59
              show OGo _ _ _ _ _ _ _ (T59.setTop (mkF m 295 #[.val (.int p0), .val (.int p1), .val (.int p2), .val (.int (own_c0 p0)), .val (.int (own_c1 p0)), .val (.int (own_c2 p0)), .val (.int (own_c3 p0)), .val (.ref b1), .val (.int (own_cn p2)), .val (.int (((p2.toUInt32 >>> ((3 : Int32) &&& 31).toUInt32).toInt32) &&& (3 : Int32))), .val (.ref nm), .val (.int kx), .val (.int (1 : Int32)), .val (.int (1 : Int32))] [(.int (f6 (own_cn p2) nm b2_r b4_r b6_r b8_r (own_by (own_ch (own_c0 p0))) (own_by (own_ch (own_c1 p0))) (own_by (own_ch (own_c2 p0))) (own_by (own_ch (own_c3 p0))) (own_by (own_ch kx))))]))
              refine OGo.step (F' := T59.setTop (mkF m 305 #[.val (.int p0), .val (.int p1), .val (.int p2), .val (.int (own_c0 p0)), .val (.int (own_c1 p0)), .val (.int (own_c2 p0)), .val (.int (own_c3 p0)), .val (.ref b1), .val (.int (own_cn p2)), .val (.int (((p2.toUInt32 >>> ((3 : Int32) &&& 31).toUInt32).toInt32) &&& (3 : Int32))), .val (.ref nm), .val (.int kx), .val (.int (1 : Int32)), .val (.int (1 : Int32))] [(.int (1 : Int32))])) (fun t kt => ?_) ?_
              · show Steps p.tables e below (T59.setTop (mkF m 295 #[.val (.int p0), .val (.int p1), .val (.int p2), .val (.int (own_c0 p0)), .val (.int (own_c1 p0)), .val (.int (own_c2 p0)), .val (.int (own_c3 p0)), .val (.ref b1), .val (.int (own_cn p2)), .val (.int (((p2.toUInt32 >>> ((3 : Int32) &&& 31).toUInt32).toInt32) &&& (3 : Int32))), .val (.ref nm), .val (.int kx), .val (.int (1 : Int32)), .val (.int (1 : Int32))] [(.int (f6 (own_cn p2) nm b2_r b4_r b6_r b8_r (own_by (own_ch (own_c0 p0))) (own_by (own_ch (own_c1 p0))) (own_by (own_ch (own_c2 p0))) (own_by (own_ch (own_c3 p0))) (own_by (own_ch kx))))])) t
                refine XS.iload X59.here hx rfl (hb hby at_295) rfl ?_
                refine XS.icmpNo X59.here hx rfl (hb hby at_297) rfl (teq (by rw [own_fin _ (own_c0 p0) (own_c1 p0) (own_c2 p0) (own_c3 p0) kx _ _ _ _ _ _ _ _ _ _ (own_e _ _ _ _ (own_r0 _) hkx hal0) (own_e _ _ _ _ (own_r1 _) hkx hal1) (own_e _ _ _ _ (own_r2 _) hkx hal2) (own_e _ _ _ _ (own_r3 _) hkx hal3) (own_cnt _), own_exp, if_neg (fun q => hc217 q.1), if_pos ⟨hc235, hc242⟩])).2 ?_
                refine XS.iconst X59.here hx rfl (hb hby at_300) ?_
                refine XS.goto X59.here hx rfl (pc0 := 301) (pc' := 305) rfl (hb hby at_301) (by decide) (by decide) ?_
                exact kt
              refine OGo.retZ X59 hx hlk (t := .boolean) (z' := (1 : Int32)) hret (by simp) (hb hby at_305) rfl ?_ (by decide) (by decide)
              show Q0 Z p0 p1 p2 w_high w_cache w_COMPACT_STRINGS h0 n0 _ T59.heap _
              rw [e59]
              exact ⟨rfl, N59, KC9⟩
            · refine OGo.step (F' := T9.setTop (mkF m 251 #[.val (.int p0), .val (.int p1), .val (.int p2), .val (.int (own_c0 p0)), .val (.int (own_c1 p0)), .val (.int (own_c2 p0)), .val (.int (own_c3 p0)), .val (.ref b1), .val (.int (own_cn p2)), .val (.int (((p2.toUInt32 >>> ((3 : Int32) &&& 31).toUInt32).toInt32) &&& (3 : Int32))), .val (.ref nm), .val (.int kx), .val (.int (1 : Int32)), .val (.int (-1 : Int32))] [])) (fun t kt => ?_) ?_
              · show Steps p.tables e below (T9.setTop (mkF m 242 #[.val (.int p0), .val (.int p1), .val (.int p2), .val (.int (own_c0 p0)), .val (.int (own_c1 p0)), .val (.int (own_c2 p0)), .val (.int (own_c3 p0)), .val (.ref b1), .val (.int (own_cn p2)), .val (.int (((p2.toUInt32 >>> ((3 : Int32) &&& 31).toUInt32).toInt32) &&& (3 : Int32))), .val (.ref nm), .val (.int kx), .val (.int (1 : Int32)), .val (.int (-1 : Int32))] [(.int kx), (.int (own_c1 p0))])) t
                refine XS.icmpYes X9.here hx rfl (pc0 := 242) (pc' := 251) rfl (hb hby at_242) rfl (feq hc242).2 (by decide) (by decide) ?_
                exact kt
              refine OGo.step (F' := T9.setTop (mkF m 254 #[.val (.int p0), .val (.int p1), .val (.int p2), .val (.int (own_c0 p0)), .val (.int (own_c1 p0)), .val (.int (own_c2 p0)), .val (.int (own_c3 p0)), .val (.ref b1), .val (.int (own_cn p2)), .val (.int (((p2.toUInt32 >>> ((3 : Int32) &&& 31).toUInt32).toInt32) &&& (3 : Int32))), .val (.ref nm), .val (.int kx), .val (.int (1 : Int32)), .val (.int (-1 : Int32))] [(.int (2 : Int32)), (.int (own_cn p2))])) (fun t kt => ?_) ?_
              · show Steps p.tables e below (T9.setTop (mkF m 251 #[.val (.int p0), .val (.int p1), .val (.int p2), .val (.int (own_c0 p0)), .val (.int (own_c1 p0)), .val (.int (own_c2 p0)), .val (.int (own_c3 p0)), .val (.ref b1), .val (.int (own_cn p2)), .val (.int (((p2.toUInt32 >>> ((3 : Int32) &&& 31).toUInt32).toInt32) &&& (3 : Int32))), .val (.ref nm), .val (.int kx), .val (.int (1 : Int32)), .val (.int (-1 : Int32))] [])) t
                refine XS.iload X9.here hx rfl (hb hby at_251) rfl ?_
                refine XS.iconst X9.here hx rfl (hb hby at_253) ?_
                exact kt
              by_cases hc254 : (2 : Int32) < (own_cn p2)
              · refine OGo.step (F' := T9.setTop (mkF m 257 #[.val (.int p0), .val (.int p1), .val (.int p2), .val (.int (own_c0 p0)), .val (.int (own_c1 p0)), .val (.int (own_c2 p0)), .val (.int (own_c3 p0)), .val (.ref b1), .val (.int (own_cn p2)), .val (.int (((p2.toUInt32 >>> ((3 : Int32) &&& 31).toUInt32).toInt32) &&& (3 : Int32))), .val (.ref nm), .val (.int kx), .val (.int (1 : Int32)), .val (.int (-1 : Int32))] [])) (fun t kt => ?_) ?_
                · show Steps p.tables e below (T9.setTop (mkF m 254 #[.val (.int p0), .val (.int p1), .val (.int p2), .val (.int (own_c0 p0)), .val (.int (own_c1 p0)), .val (.int (own_c2 p0)), .val (.int (own_c3 p0)), .val (.ref b1), .val (.int (own_cn p2)), .val (.int (((p2.toUInt32 >>> ((3 : Int32) &&& 31).toUInt32).toInt32) &&& (3 : Int32))), .val (.ref nm), .val (.int kx), .val (.int (1 : Int32)), .val (.int (-1 : Int32))] [(.int (2 : Int32)), (.int (own_cn p2))])) t
                  refine XS.icmpNo X9.here hx rfl (hb hby at_254) rfl (tlt hc254).2.2.2 ?_
                  exact kt
                refine OGo.step (F' := T9.setTop (mkF m 261 #[.val (.int p0), .val (.int p1), .val (.int p2), .val (.int (own_c0 p0)), .val (.int (own_c1 p0)), .val (.int (own_c2 p0)), .val (.int (own_c3 p0)), .val (.ref b1), .val (.int (own_cn p2)), .val (.int (((p2.toUInt32 >>> ((3 : Int32) &&& 31).toUInt32).toInt32) &&& (3 : Int32))), .val (.ref nm), .val (.int kx), .val (.int (1 : Int32)), .val (.int (-1 : Int32))] [(.int kx), (.int (own_c2 p0))])) (fun t kt => ?_) ?_
                · show Steps p.tables e below (T9.setTop (mkF m 257 #[.val (.int p0), .val (.int p1), .val (.int p2), .val (.int (own_c0 p0)), .val (.int (own_c1 p0)), .val (.int (own_c2 p0)), .val (.int (own_c3 p0)), .val (.ref b1), .val (.int (own_cn p2)), .val (.int (((p2.toUInt32 >>> ((3 : Int32) &&& 31).toUInt32).toInt32) &&& (3 : Int32))), .val (.ref nm), .val (.int kx), .val (.int (1 : Int32)), .val (.int (-1 : Int32))] [])) t
                  refine XS.iload X9.here hx rfl (hb hby at_257) rfl ?_
                  refine XS.iload X9.here hx rfl (hb hby at_259) rfl ?_
                  exact kt
                by_cases hc261 : (own_c2 p0) = kx
                · refine OGo.step (F' := T9.setTop (mkF m 264 #[.val (.int p0), .val (.int p1), .val (.int p2), .val (.int (own_c0 p0)), .val (.int (own_c1 p0)), .val (.int (own_c2 p0)), .val (.int (own_c3 p0)), .val (.ref b1), .val (.int (own_cn p2)), .val (.int (((p2.toUInt32 >>> ((3 : Int32) &&& 31).toUInt32).toInt32) &&& (3 : Int32))), .val (.ref nm), .val (.int kx), .val (.int (1 : Int32)), .val (.int (-1 : Int32))] [])) (fun t kt => ?_) ?_
                  · show Steps p.tables e below (T9.setTop (mkF m 261 #[.val (.int p0), .val (.int p1), .val (.int p2), .val (.int (own_c0 p0)), .val (.int (own_c1 p0)), .val (.int (own_c2 p0)), .val (.int (own_c3 p0)), .val (.ref b1), .val (.int (own_cn p2)), .val (.int (((p2.toUInt32 >>> ((3 : Int32) &&& 31).toUInt32).toInt32) &&& (3 : Int32))), .val (.ref nm), .val (.int kx), .val (.int (1 : Int32)), .val (.int (-1 : Int32))] [(.int kx), (.int (own_c2 p0))])) t
                    refine XS.icmpNo X9.here hx rfl (hb hby at_261) rfl (teq hc261).2 ?_
                    exact kt
                  refine OGo.step (F' := T9.setTop (mkF m 292 #[.val (.int p0), .val (.int p1), .val (.int p2), .val (.int (own_c0 p0)), .val (.int (own_c1 p0)), .val (.int (own_c2 p0)), .val (.int (own_c3 p0)), .val (.ref b1), .val (.int (own_cn p2)), .val (.int (((p2.toUInt32 >>> ((3 : Int32) &&& 31).toUInt32).toInt32) &&& (3 : Int32))), .val (.ref nm), .val (.int kx), .val (.int (1 : Int32)), .val (.int (2 : Int32))] [(.ref nm), (.int (own_cn p2)), (.ref b1)])) (fun t kt => ?_) ?_
                  · show Steps p.tables e below (T9.setTop (mkF m 264 #[.val (.int p0), .val (.int p1), .val (.int p2), .val (.int (own_c0 p0)), .val (.int (own_c1 p0)), .val (.int (own_c2 p0)), .val (.int (own_c3 p0)), .val (.ref b1), .val (.int (own_cn p2)), .val (.int (((p2.toUInt32 >>> ((3 : Int32) &&& 31).toUInt32).toInt32) &&& (3 : Int32))), .val (.ref nm), .val (.int kx), .val (.int (1 : Int32)), .val (.int (-1 : Int32))] [])) t
                    refine XS.iconst X9.here hx rfl (hb hby at_264) ?_
                    refine XS.istore X9.here hx rfl (hb hby at_265) rfl (l' := #[.val (.int p0), .val (.int p1), .val (.int p2), .val (.int (own_c0 p0)), .val (.int (own_c1 p0)), .val (.int (own_c2 p0)), .val (.int (own_c3 p0)), .val (.ref b1), .val (.int (own_cn p2)), .val (.int (((p2.toUInt32 >>> ((3 : Int32) &&& 31).toUInt32).toInt32) &&& (3 : Int32))), .val (.ref nm), .val (.int kx), .val (.int (1 : Int32)), .val (.int (2 : Int32))]) rfl ?_
                    refine XS.goto X9.here hx rfl (pc0 := 267) (pc' := 286) rfl (hb hby at_267) (by decide) (by decide) ?_
                    refine XS.aload X9.here hx rfl (hb hby at_286) rfl rfl ?_
                    refine XS.iload X9.here hx rfl (hb hby at_288) rfl ?_
                    refine XS.aload X9.here hx rfl (hb hby at_290) rfl rfl ?_
                    exact kt
                  refine OGo.callS X9 hx hZ (y := (⟨"com/example/kette/kette/JsonObject", "walk", "([Ljava/lang/String;ILjava/lang/Object;)I"⟩ : MethodName)) hown (own_wd hw 28 rfl) (own_wd hw 29 rfl) (own_wd hw 30 rfl) (own_wd hw 31 rfl) (by decide) (rm6 l Z az hw [] b1 (own_cn p2) nm k1 b2_r b4_r b6_r b8_r b2_t b4_t b6_t b8_t (own_by (own_ch (own_c0 p0))) (own_by (own_ch (own_c1 p0))) (own_by (own_ch (own_c2 p0))) (own_by (own_ch (own_c3 p0))) tn (own_by (own_ch kx)) w_COMPACT_STRINGS h9 n0 (Nat.le_trans Z0 KC9.1) V9 Z10_5 Z10_6 Z10_7 Z10_8 Z10_9 Z10_10 Z10_11 Z10_12 Z10_13 Z10_14 Z10_15 Z10_16 Z10_17 Z10_18 Z10_19 Z10_20 E_nm Fv_nm Fc_nm O_tn hC (own_cnt _) Z10_4) (W := 0) (by decide) (by decide) (g := (mkF m 292 #[.val (.int p0), .val (.int p1), .val (.int p2), .val (.int (own_c0 p0)), .val (.int (own_c1 p0)), .val (.int (own_c2 p0)), .val (.int (own_c3 p0)), .val (.ref b1), .val (.int (own_cn p2)), .val (.int (((p2.toUInt32 >>> ((3 : Int32) &&& 31).toUInt32).toInt32) &&& (3 : Int32))), .val (.ref nm), .val (.int kx), .val (.int (1 : Int32)), .val (.int (2 : Int32))] [(.ref nm), (.int (own_cn p2)), (.ref b1)])) rfl (by rw [hml]; rfl) (argsL := [(.ref b1), (.int (own_cn p2)), (.ref nm)]) (rest := []) (lenOf pd_0_1 rfl) rfl (by show 2 * 0 + _ ≤ _; exact Nat.le_of_eq rfl) (hb hby at_292) rfl e9 (by decide) (by decide) ?_
                  rintro _ T60 L60 X60 ⟨rfl, Nq60, e60⟩
                  have N60 := Fr.app N9 Nq60
                  show OGo _ _ _ _ _ _ _ (T60.setTop (mkF m 295 #[.val (.int p0), .val (.int p1), .val (.int p2), .val (.int (own_c0 p0)), .val (.int (own_c1 p0)), .val (.int (own_c2 p0)), .val (.int (own_c3 p0)), .val (.ref b1), .val (.int (own_cn p2)), .val (.int (((p2.toUInt32 >>> ((3 : Int32) &&& 31).toUInt32).toInt32) &&& (3 : Int32))), .val (.ref nm), .val (.int kx), .val (.int (1 : Int32)), .val (.int (2 : Int32))] [(.int (f6 (own_cn p2) nm b2_r b4_r b6_r b8_r (own_by (own_ch (own_c0 p0))) (own_by (own_ch (own_c1 p0))) (own_by (own_ch (own_c2 p0))) (own_by (own_ch (own_c3 p0))) (own_by (own_ch kx))))]))
                  refine OGo.step (F' := T60.setTop (mkF m 305 #[.val (.int p0), .val (.int p1), .val (.int p2), .val (.int (own_c0 p0)), .val (.int (own_c1 p0)), .val (.int (own_c2 p0)), .val (.int (own_c3 p0)), .val (.ref b1), .val (.int (own_cn p2)), .val (.int (((p2.toUInt32 >>> ((3 : Int32) &&& 31).toUInt32).toInt32) &&& (3 : Int32))), .val (.ref nm), .val (.int kx), .val (.int (1 : Int32)), .val (.int (2 : Int32))] [(.int (1 : Int32))])) (fun t kt => ?_) ?_
                  · show Steps p.tables e below (T60.setTop (mkF m 295 #[.val (.int p0), .val (.int p1), .val (.int p2), .val (.int (own_c0 p0)), .val (.int (own_c1 p0)), .val (.int (own_c2 p0)), .val (.int (own_c3 p0)), .val (.ref b1), .val (.int (own_cn p2)), .val (.int (((p2.toUInt32 >>> ((3 : Int32) &&& 31).toUInt32).toInt32) &&& (3 : Int32))), .val (.ref nm), .val (.int kx), .val (.int (1 : Int32)), .val (.int (2 : Int32))] [(.int (f6 (own_cn p2) nm b2_r b4_r b6_r b8_r (own_by (own_ch (own_c0 p0))) (own_by (own_ch (own_c1 p0))) (own_by (own_ch (own_c2 p0))) (own_by (own_ch (own_c3 p0))) (own_by (own_ch kx))))])) t
                    refine XS.iload X60.here hx rfl (hb hby at_295) rfl ?_
                    refine XS.icmpNo X60.here hx rfl (hb hby at_297) rfl (teq (by rw [own_fin _ (own_c0 p0) (own_c1 p0) (own_c2 p0) (own_c3 p0) kx _ _ _ _ _ _ _ _ _ _ (own_e _ _ _ _ (own_r0 _) hkx hal0) (own_e _ _ _ _ (own_r1 _) hkx hal1) (own_e _ _ _ _ (own_r2 _) hkx hal2) (own_e _ _ _ _ (own_r3 _) hkx hal3) (own_cnt _), own_exp, if_neg (fun q => hc217 q.1), if_neg (fun q => hc242 q.2), if_pos ⟨hc254, hc261⟩])).2 ?_
                    refine XS.iconst X60.here hx rfl (hb hby at_300) ?_
                    refine XS.goto X60.here hx rfl (pc0 := 301) (pc' := 305) rfl (hb hby at_301) (by decide) (by decide) ?_
                    exact kt
                  refine OGo.retZ X60 hx hlk (t := .boolean) (z' := (1 : Int32)) hret (by simp) (hb hby at_305) rfl ?_ (by decide) (by decide)
                  show Q0 Z p0 p1 p2 w_high w_cache w_COMPACT_STRINGS h0 n0 _ T60.heap _
                  rw [e60]
                  exact ⟨rfl, N60, KC9⟩
                · refine OGo.step (F' := T9.setTop (mkF m 270 #[.val (.int p0), .val (.int p1), .val (.int p2), .val (.int (own_c0 p0)), .val (.int (own_c1 p0)), .val (.int (own_c2 p0)), .val (.int (own_c3 p0)), .val (.ref b1), .val (.int (own_cn p2)), .val (.int (((p2.toUInt32 >>> ((3 : Int32) &&& 31).toUInt32).toInt32) &&& (3 : Int32))), .val (.ref nm), .val (.int kx), .val (.int (1 : Int32)), .val (.int (-1 : Int32))] [])) (fun t kt => ?_) ?_
                  · show Steps p.tables e below (T9.setTop (mkF m 261 #[.val (.int p0), .val (.int p1), .val (.int p2), .val (.int (own_c0 p0)), .val (.int (own_c1 p0)), .val (.int (own_c2 p0)), .val (.int (own_c3 p0)), .val (.ref b1), .val (.int (own_cn p2)), .val (.int (((p2.toUInt32 >>> ((3 : Int32) &&& 31).toUInt32).toInt32) &&& (3 : Int32))), .val (.ref nm), .val (.int kx), .val (.int (1 : Int32)), .val (.int (-1 : Int32))] [(.int kx), (.int (own_c2 p0))])) t
                    refine XS.icmpYes X9.here hx rfl (pc0 := 261) (pc' := 270) rfl (hb hby at_261) rfl (feq hc261).2 (by decide) (by decide) ?_
                    exact kt
                  refine OGo.step (F' := T9.setTop (mkF m 273 #[.val (.int p0), .val (.int p1), .val (.int p2), .val (.int (own_c0 p0)), .val (.int (own_c1 p0)), .val (.int (own_c2 p0)), .val (.int (own_c3 p0)), .val (.ref b1), .val (.int (own_cn p2)), .val (.int (((p2.toUInt32 >>> ((3 : Int32) &&& 31).toUInt32).toInt32) &&& (3 : Int32))), .val (.ref nm), .val (.int kx), .val (.int (1 : Int32)), .val (.int (-1 : Int32))] [(.int (3 : Int32)), (.int (own_cn p2))])) (fun t kt => ?_) ?_
                  · show Steps p.tables e below (T9.setTop (mkF m 270 #[.val (.int p0), .val (.int p1), .val (.int p2), .val (.int (own_c0 p0)), .val (.int (own_c1 p0)), .val (.int (own_c2 p0)), .val (.int (own_c3 p0)), .val (.ref b1), .val (.int (own_cn p2)), .val (.int (((p2.toUInt32 >>> ((3 : Int32) &&& 31).toUInt32).toInt32) &&& (3 : Int32))), .val (.ref nm), .val (.int kx), .val (.int (1 : Int32)), .val (.int (-1 : Int32))] [])) t
                    refine XS.iload X9.here hx rfl (hb hby at_270) rfl ?_
                    refine XS.iconst X9.here hx rfl (hb hby at_272) ?_
                    exact kt
                  by_cases hc273 : (3 : Int32) < (own_cn p2)
                  · refine OGo.step (F' := T9.setTop (mkF m 276 #[.val (.int p0), .val (.int p1), .val (.int p2), .val (.int (own_c0 p0)), .val (.int (own_c1 p0)), .val (.int (own_c2 p0)), .val (.int (own_c3 p0)), .val (.ref b1), .val (.int (own_cn p2)), .val (.int (((p2.toUInt32 >>> ((3 : Int32) &&& 31).toUInt32).toInt32) &&& (3 : Int32))), .val (.ref nm), .val (.int kx), .val (.int (1 : Int32)), .val (.int (-1 : Int32))] [])) (fun t kt => ?_) ?_
                    · show Steps p.tables e below (T9.setTop (mkF m 273 #[.val (.int p0), .val (.int p1), .val (.int p2), .val (.int (own_c0 p0)), .val (.int (own_c1 p0)), .val (.int (own_c2 p0)), .val (.int (own_c3 p0)), .val (.ref b1), .val (.int (own_cn p2)), .val (.int (((p2.toUInt32 >>> ((3 : Int32) &&& 31).toUInt32).toInt32) &&& (3 : Int32))), .val (.ref nm), .val (.int kx), .val (.int (1 : Int32)), .val (.int (-1 : Int32))] [(.int (3 : Int32)), (.int (own_cn p2))])) t
                      refine XS.icmpNo X9.here hx rfl (hb hby at_273) rfl (tlt hc273).2.2.2 ?_
                      exact kt
                    refine OGo.step (F' := T9.setTop (mkF m 280 #[.val (.int p0), .val (.int p1), .val (.int p2), .val (.int (own_c0 p0)), .val (.int (own_c1 p0)), .val (.int (own_c2 p0)), .val (.int (own_c3 p0)), .val (.ref b1), .val (.int (own_cn p2)), .val (.int (((p2.toUInt32 >>> ((3 : Int32) &&& 31).toUInt32).toInt32) &&& (3 : Int32))), .val (.ref nm), .val (.int kx), .val (.int (1 : Int32)), .val (.int (-1 : Int32))] [(.int kx), (.int (own_c3 p0))])) (fun t kt => ?_) ?_
                    · show Steps p.tables e below (T9.setTop (mkF m 276 #[.val (.int p0), .val (.int p1), .val (.int p2), .val (.int (own_c0 p0)), .val (.int (own_c1 p0)), .val (.int (own_c2 p0)), .val (.int (own_c3 p0)), .val (.ref b1), .val (.int (own_cn p2)), .val (.int (((p2.toUInt32 >>> ((3 : Int32) &&& 31).toUInt32).toInt32) &&& (3 : Int32))), .val (.ref nm), .val (.int kx), .val (.int (1 : Int32)), .val (.int (-1 : Int32))] [])) t
                      refine XS.iload X9.here hx rfl (hb hby at_276) rfl ?_
                      refine XS.iload X9.here hx rfl (hb hby at_278) rfl ?_
                      exact kt
                    by_cases hc280 : (own_c3 p0) = kx
                    · refine OGo.step (F' := T9.setTop (mkF m 283 #[.val (.int p0), .val (.int p1), .val (.int p2), .val (.int (own_c0 p0)), .val (.int (own_c1 p0)), .val (.int (own_c2 p0)), .val (.int (own_c3 p0)), .val (.ref b1), .val (.int (own_cn p2)), .val (.int (((p2.toUInt32 >>> ((3 : Int32) &&& 31).toUInt32).toInt32) &&& (3 : Int32))), .val (.ref nm), .val (.int kx), .val (.int (1 : Int32)), .val (.int (-1 : Int32))] [])) (fun t kt => ?_) ?_
                      · show Steps p.tables e below (T9.setTop (mkF m 280 #[.val (.int p0), .val (.int p1), .val (.int p2), .val (.int (own_c0 p0)), .val (.int (own_c1 p0)), .val (.int (own_c2 p0)), .val (.int (own_c3 p0)), .val (.ref b1), .val (.int (own_cn p2)), .val (.int (((p2.toUInt32 >>> ((3 : Int32) &&& 31).toUInt32).toInt32) &&& (3 : Int32))), .val (.ref nm), .val (.int kx), .val (.int (1 : Int32)), .val (.int (-1 : Int32))] [(.int kx), (.int (own_c3 p0))])) t
                        refine XS.icmpNo X9.here hx rfl (hb hby at_280) rfl (teq hc280).2 ?_
                        exact kt
                      refine OGo.step (F' := T9.setTop (mkF m 292 #[.val (.int p0), .val (.int p1), .val (.int p2), .val (.int (own_c0 p0)), .val (.int (own_c1 p0)), .val (.int (own_c2 p0)), .val (.int (own_c3 p0)), .val (.ref b1), .val (.int (own_cn p2)), .val (.int (((p2.toUInt32 >>> ((3 : Int32) &&& 31).toUInt32).toInt32) &&& (3 : Int32))), .val (.ref nm), .val (.int kx), .val (.int (1 : Int32)), .val (.int (3 : Int32))] [(.ref nm), (.int (own_cn p2)), (.ref b1)])) (fun t kt => ?_) ?_
                      · show Steps p.tables e below (T9.setTop (mkF m 283 #[.val (.int p0), .val (.int p1), .val (.int p2), .val (.int (own_c0 p0)), .val (.int (own_c1 p0)), .val (.int (own_c2 p0)), .val (.int (own_c3 p0)), .val (.ref b1), .val (.int (own_cn p2)), .val (.int (((p2.toUInt32 >>> ((3 : Int32) &&& 31).toUInt32).toInt32) &&& (3 : Int32))), .val (.ref nm), .val (.int kx), .val (.int (1 : Int32)), .val (.int (-1 : Int32))] [])) t
                        refine XS.iconst X9.here hx rfl (hb hby at_283) ?_
                        refine XS.istore X9.here hx rfl (hb hby at_284) rfl (l' := #[.val (.int p0), .val (.int p1), .val (.int p2), .val (.int (own_c0 p0)), .val (.int (own_c1 p0)), .val (.int (own_c2 p0)), .val (.int (own_c3 p0)), .val (.ref b1), .val (.int (own_cn p2)), .val (.int (((p2.toUInt32 >>> ((3 : Int32) &&& 31).toUInt32).toInt32) &&& (3 : Int32))), .val (.ref nm), .val (.int kx), .val (.int (1 : Int32)), .val (.int (3 : Int32))]) rfl ?_
                        refine XS.aload X9.here hx rfl (hb hby at_286) rfl rfl ?_
                        refine XS.iload X9.here hx rfl (hb hby at_288) rfl ?_
                        refine XS.aload X9.here hx rfl (hb hby at_290) rfl rfl ?_
                        exact kt
                      refine OGo.callS X9 hx hZ (y := (⟨"com/example/kette/kette/JsonObject", "walk", "([Ljava/lang/String;ILjava/lang/Object;)I"⟩ : MethodName)) hown (own_wd hw 28 rfl) (own_wd hw 29 rfl) (own_wd hw 30 rfl) (own_wd hw 31 rfl) (by decide) (rm6 l Z az hw [] b1 (own_cn p2) nm k1 b2_r b4_r b6_r b8_r b2_t b4_t b6_t b8_t (own_by (own_ch (own_c0 p0))) (own_by (own_ch (own_c1 p0))) (own_by (own_ch (own_c2 p0))) (own_by (own_ch (own_c3 p0))) tn (own_by (own_ch kx)) w_COMPACT_STRINGS h9 n0 (Nat.le_trans Z0 KC9.1) V9 Z10_5 Z10_6 Z10_7 Z10_8 Z10_9 Z10_10 Z10_11 Z10_12 Z10_13 Z10_14 Z10_15 Z10_16 Z10_17 Z10_18 Z10_19 Z10_20 E_nm Fv_nm Fc_nm O_tn hC (own_cnt _) Z10_4) (W := 0) (by decide) (by decide) (g := (mkF m 292 #[.val (.int p0), .val (.int p1), .val (.int p2), .val (.int (own_c0 p0)), .val (.int (own_c1 p0)), .val (.int (own_c2 p0)), .val (.int (own_c3 p0)), .val (.ref b1), .val (.int (own_cn p2)), .val (.int (((p2.toUInt32 >>> ((3 : Int32) &&& 31).toUInt32).toInt32) &&& (3 : Int32))), .val (.ref nm), .val (.int kx), .val (.int (1 : Int32)), .val (.int (3 : Int32))] [(.ref nm), (.int (own_cn p2)), (.ref b1)])) rfl (by rw [hml]; rfl) (argsL := [(.ref b1), (.int (own_cn p2)), (.ref nm)]) (rest := []) (lenOf pd_0_1 rfl) rfl (by show 2 * 0 + _ ≤ _; exact Nat.le_of_eq rfl) (hb hby at_292) rfl e9 (by decide) (by decide) ?_
                      rintro _ T61 L61 X61 ⟨rfl, Nq61, e61⟩
                      have N61 := Fr.app N9 Nq61
                      show OGo _ _ _ _ _ _ _ (T61.setTop (mkF m 295 #[.val (.int p0), .val (.int p1), .val (.int p2), .val (.int (own_c0 p0)), .val (.int (own_c1 p0)), .val (.int (own_c2 p0)), .val (.int (own_c3 p0)), .val (.ref b1), .val (.int (own_cn p2)), .val (.int (((p2.toUInt32 >>> ((3 : Int32) &&& 31).toUInt32).toInt32) &&& (3 : Int32))), .val (.ref nm), .val (.int kx), .val (.int (1 : Int32)), .val (.int (3 : Int32))] [(.int (f6 (own_cn p2) nm b2_r b4_r b6_r b8_r (own_by (own_ch (own_c0 p0))) (own_by (own_ch (own_c1 p0))) (own_by (own_ch (own_c2 p0))) (own_by (own_ch (own_c3 p0))) (own_by (own_ch kx))))]))
                      refine OGo.step (F' := T61.setTop (mkF m 305 #[.val (.int p0), .val (.int p1), .val (.int p2), .val (.int (own_c0 p0)), .val (.int (own_c1 p0)), .val (.int (own_c2 p0)), .val (.int (own_c3 p0)), .val (.ref b1), .val (.int (own_cn p2)), .val (.int (((p2.toUInt32 >>> ((3 : Int32) &&& 31).toUInt32).toInt32) &&& (3 : Int32))), .val (.ref nm), .val (.int kx), .val (.int (1 : Int32)), .val (.int (3 : Int32))] [(.int (1 : Int32))])) (fun t kt => ?_) ?_
                      · show Steps p.tables e below (T61.setTop (mkF m 295 #[.val (.int p0), .val (.int p1), .val (.int p2), .val (.int (own_c0 p0)), .val (.int (own_c1 p0)), .val (.int (own_c2 p0)), .val (.int (own_c3 p0)), .val (.ref b1), .val (.int (own_cn p2)), .val (.int (((p2.toUInt32 >>> ((3 : Int32) &&& 31).toUInt32).toInt32) &&& (3 : Int32))), .val (.ref nm), .val (.int kx), .val (.int (1 : Int32)), .val (.int (3 : Int32))] [(.int (f6 (own_cn p2) nm b2_r b4_r b6_r b8_r (own_by (own_ch (own_c0 p0))) (own_by (own_ch (own_c1 p0))) (own_by (own_ch (own_c2 p0))) (own_by (own_ch (own_c3 p0))) (own_by (own_ch kx))))])) t
                        refine XS.iload X61.here hx rfl (hb hby at_295) rfl ?_
                        refine XS.icmpNo X61.here hx rfl (hb hby at_297) rfl (teq (by rw [own_fin _ (own_c0 p0) (own_c1 p0) (own_c2 p0) (own_c3 p0) kx _ _ _ _ _ _ _ _ _ _ (own_e _ _ _ _ (own_r0 _) hkx hal0) (own_e _ _ _ _ (own_r1 _) hkx hal1) (own_e _ _ _ _ (own_r2 _) hkx hal2) (own_e _ _ _ _ (own_r3 _) hkx hal3) (own_cnt _), own_exp, if_neg (fun q => hc217 q.1), if_neg (fun q => hc242 q.2), if_neg (fun q => hc261 q.2), if_pos ⟨hc273, hc280⟩])).2 ?_
                        refine XS.iconst X61.here hx rfl (hb hby at_300) ?_
                        refine XS.goto X61.here hx rfl (pc0 := 301) (pc' := 305) rfl (hb hby at_301) (by decide) (by decide) ?_
                        exact kt
                      refine OGo.retZ X61 hx hlk (t := .boolean) (z' := (1 : Int32)) hret (by simp) (hb hby at_305) rfl ?_ (by decide) (by decide)
                      show Q0 Z p0 p1 p2 w_high w_cache w_COMPACT_STRINGS h0 n0 _ T61.heap _
                      rw [e61]
                      exact ⟨rfl, N61, KC9⟩
                    · refine OGo.step (F' := T9.setTop (mkF m 286 #[.val (.int p0), .val (.int p1), .val (.int p2), .val (.int (own_c0 p0)), .val (.int (own_c1 p0)), .val (.int (own_c2 p0)), .val (.int (own_c3 p0)), .val (.ref b1), .val (.int (own_cn p2)), .val (.int (((p2.toUInt32 >>> ((3 : Int32) &&& 31).toUInt32).toInt32) &&& (3 : Int32))), .val (.ref nm), .val (.int kx), .val (.int (1 : Int32)), .val (.int (-1 : Int32))] [])) (fun t kt => ?_) ?_
                      · show Steps p.tables e below (T9.setTop (mkF m 280 #[.val (.int p0), .val (.int p1), .val (.int p2), .val (.int (own_c0 p0)), .val (.int (own_c1 p0)), .val (.int (own_c2 p0)), .val (.int (own_c3 p0)), .val (.ref b1), .val (.int (own_cn p2)), .val (.int (((p2.toUInt32 >>> ((3 : Int32) &&& 31).toUInt32).toInt32) &&& (3 : Int32))), .val (.ref nm), .val (.int kx), .val (.int (1 : Int32)), .val (.int (-1 : Int32))] [(.int kx), (.int (own_c3 p0))])) t
                        refine XS.icmpYes X9.here hx rfl (pc0 := 280) (pc' := 286) rfl (hb hby at_280) rfl (feq hc280).2 (by decide) (by decide) ?_
                        exact kt
                      refine OGo.step (F' := T9.setTop (mkF m 292 #[.val (.int p0), .val (.int p1), .val (.int p2), .val (.int (own_c0 p0)), .val (.int (own_c1 p0)), .val (.int (own_c2 p0)), .val (.int (own_c3 p0)), .val (.ref b1), .val (.int (own_cn p2)), .val (.int (((p2.toUInt32 >>> ((3 : Int32) &&& 31).toUInt32).toInt32) &&& (3 : Int32))), .val (.ref nm), .val (.int kx), .val (.int (1 : Int32)), .val (.int (-1 : Int32))] [(.ref nm), (.int (own_cn p2)), (.ref b1)])) (fun t kt => ?_) ?_
                      · show Steps p.tables e below (T9.setTop (mkF m 286 #[.val (.int p0), .val (.int p1), .val (.int p2), .val (.int (own_c0 p0)), .val (.int (own_c1 p0)), .val (.int (own_c2 p0)), .val (.int (own_c3 p0)), .val (.ref b1), .val (.int (own_cn p2)), .val (.int (((p2.toUInt32 >>> ((3 : Int32) &&& 31).toUInt32).toInt32) &&& (3 : Int32))), .val (.ref nm), .val (.int kx), .val (.int (1 : Int32)), .val (.int (-1 : Int32))] [])) t
                        refine XS.aload X9.here hx rfl (hb hby at_286) rfl rfl ?_
                        refine XS.iload X9.here hx rfl (hb hby at_288) rfl ?_
                        refine XS.aload X9.here hx rfl (hb hby at_290) rfl rfl ?_
                        exact kt
                      refine OGo.callS X9 hx hZ (y := (⟨"com/example/kette/kette/JsonObject", "walk", "([Ljava/lang/String;ILjava/lang/Object;)I"⟩ : MethodName)) hown (own_wd hw 28 rfl) (own_wd hw 29 rfl) (own_wd hw 30 rfl) (own_wd hw 31 rfl) (by decide) (rm6 l Z az hw [] b1 (own_cn p2) nm k1 b2_r b4_r b6_r b8_r b2_t b4_t b6_t b8_t (own_by (own_ch (own_c0 p0))) (own_by (own_ch (own_c1 p0))) (own_by (own_ch (own_c2 p0))) (own_by (own_ch (own_c3 p0))) tn (own_by (own_ch kx)) w_COMPACT_STRINGS h9 n0 (Nat.le_trans Z0 KC9.1) V9 Z10_5 Z10_6 Z10_7 Z10_8 Z10_9 Z10_10 Z10_11 Z10_12 Z10_13 Z10_14 Z10_15 Z10_16 Z10_17 Z10_18 Z10_19 Z10_20 E_nm Fv_nm Fc_nm O_tn hC (own_cnt _) Z10_4) (W := 0) (by decide) (by decide) (g := (mkF m 292 #[.val (.int p0), .val (.int p1), .val (.int p2), .val (.int (own_c0 p0)), .val (.int (own_c1 p0)), .val (.int (own_c2 p0)), .val (.int (own_c3 p0)), .val (.ref b1), .val (.int (own_cn p2)), .val (.int (((p2.toUInt32 >>> ((3 : Int32) &&& 31).toUInt32).toInt32) &&& (3 : Int32))), .val (.ref nm), .val (.int kx), .val (.int (1 : Int32)), .val (.int (-1 : Int32))] [(.ref nm), (.int (own_cn p2)), (.ref b1)])) rfl (by rw [hml]; rfl) (argsL := [(.ref b1), (.int (own_cn p2)), (.ref nm)]) (rest := []) (lenOf pd_0_1 rfl) rfl (by show 2 * 0 + _ ≤ _; exact Nat.le_of_eq rfl) (hb hby at_292) rfl e9 (by decide) (by decide) ?_
                      rintro _ T62 L62 X62 ⟨rfl, Nq62, e62⟩
                      have N62 := Fr.app N9 Nq62
                      show OGo _ _ _ _ _ _ _ (T62.setTop (mkF m 295 #[.val (.int p0), .val (.int p1), .val (.int p2), .val (.int (own_c0 p0)), .val (.int (own_c1 p0)), .val (.int (own_c2 p0)), .val (.int (own_c3 p0)), .val (.ref b1), .val (.int (own_cn p2)), .val (.int (((p2.toUInt32 >>> ((3 : Int32) &&& 31).toUInt32).toInt32) &&& (3 : Int32))), .val (.ref nm), .val (.int kx), .val (.int (1 : Int32)), .val (.int (-1 : Int32))] [(.int (f6 (own_cn p2) nm b2_r b4_r b6_r b8_r (own_by (own_ch (own_c0 p0))) (own_by (own_ch (own_c1 p0))) (own_by (own_ch (own_c2 p0))) (own_by (own_ch (own_c3 p0))) (own_by (own_ch kx))))]))
                      refine OGo.step (F' := T62.setTop (mkF m 305 #[.val (.int p0), .val (.int p1), .val (.int p2), .val (.int (own_c0 p0)), .val (.int (own_c1 p0)), .val (.int (own_c2 p0)), .val (.int (own_c3 p0)), .val (.ref b1), .val (.int (own_cn p2)), .val (.int (((p2.toUInt32 >>> ((3 : Int32) &&& 31).toUInt32).toInt32) &&& (3 : Int32))), .val (.ref nm), .val (.int kx), .val (.int (1 : Int32)), .val (.int (-1 : Int32))] [(.int (1 : Int32))])) (fun t kt => ?_) ?_
                      · show Steps p.tables e below (T62.setTop (mkF m 295 #[.val (.int p0), .val (.int p1), .val (.int p2), .val (.int (own_c0 p0)), .val (.int (own_c1 p0)), .val (.int (own_c2 p0)), .val (.int (own_c3 p0)), .val (.ref b1), .val (.int (own_cn p2)), .val (.int (((p2.toUInt32 >>> ((3 : Int32) &&& 31).toUInt32).toInt32) &&& (3 : Int32))), .val (.ref nm), .val (.int kx), .val (.int (1 : Int32)), .val (.int (-1 : Int32))] [(.int (f6 (own_cn p2) nm b2_r b4_r b6_r b8_r (own_by (own_ch (own_c0 p0))) (own_by (own_ch (own_c1 p0))) (own_by (own_ch (own_c2 p0))) (own_by (own_ch (own_c3 p0))) (own_by (own_ch kx))))])) t
                        refine XS.iload X62.here hx rfl (hb hby at_295) rfl ?_
                        refine XS.icmpNo X62.here hx rfl (hb hby at_297) rfl (teq (by rw [own_fin _ (own_c0 p0) (own_c1 p0) (own_c2 p0) (own_c3 p0) kx _ _ _ _ _ _ _ _ _ _ (own_e _ _ _ _ (own_r0 _) hkx hal0) (own_e _ _ _ _ (own_r1 _) hkx hal1) (own_e _ _ _ _ (own_r2 _) hkx hal2) (own_e _ _ _ _ (own_r3 _) hkx hal3) (own_cnt _), own_exp, if_neg (fun q => hc217 q.1), if_neg (fun q => hc242 q.2), if_neg (fun q => hc261 q.2), if_neg (fun q => hc280 q.2)])).2 ?_
                        refine XS.iconst X62.here hx rfl (hb hby at_300) ?_
                        refine XS.goto X62.here hx rfl (pc0 := 301) (pc' := 305) rfl (hb hby at_301) (by decide) (by decide) ?_
                        exact kt
                      refine OGo.retZ X62 hx hlk (t := .boolean) (z' := (1 : Int32)) hret (by simp) (hb hby at_305) rfl ?_ (by decide) (by decide)
                      show Q0 Z p0 p1 p2 w_high w_cache w_COMPACT_STRINGS h0 n0 _ T62.heap _
                      rw [e62]
                      exact ⟨rfl, N62, KC9⟩
                  · refine OGo.step (F' := T9.setTop (mkF m 286 #[.val (.int p0), .val (.int p1), .val (.int p2), .val (.int (own_c0 p0)), .val (.int (own_c1 p0)), .val (.int (own_c2 p0)), .val (.int (own_c3 p0)), .val (.ref b1), .val (.int (own_cn p2)), .val (.int (((p2.toUInt32 >>> ((3 : Int32) &&& 31).toUInt32).toInt32) &&& (3 : Int32))), .val (.ref nm), .val (.int kx), .val (.int (1 : Int32)), .val (.int (-1 : Int32))] [])) (fun t kt => ?_) ?_
                    · show Steps p.tables e below (T9.setTop (mkF m 273 #[.val (.int p0), .val (.int p1), .val (.int p2), .val (.int (own_c0 p0)), .val (.int (own_c1 p0)), .val (.int (own_c2 p0)), .val (.int (own_c3 p0)), .val (.ref b1), .val (.int (own_cn p2)), .val (.int (((p2.toUInt32 >>> ((3 : Int32) &&& 31).toUInt32).toInt32) &&& (3 : Int32))), .val (.ref nm), .val (.int kx), .val (.int (1 : Int32)), .val (.int (-1 : Int32))] [(.int (3 : Int32)), (.int (own_cn p2))])) t
                      refine XS.icmpYes X9.here hx rfl (pc0 := 273) (pc' := 286) rfl (hb hby at_273) rfl (flt hc273).2.2.2 (by decide) (by decide) ?_
                      exact kt
                    refine OGo.step (F' := T9.setTop (mkF m 292 #[.val (.int p0), .val (.int p1), .val (.int p2), .val (.int (own_c0 p0)), .val (.int (own_c1 p0)), .val (.int (own_c2 p0)), .val (.int (own_c3 p0)), .val (.ref b1), .val (.int (own_cn p2)), .val (.int (((p2.toUInt32 >>> ((3 : Int32) &&& 31).toUInt32).toInt32) &&& (3 : Int32))), .val (.ref nm), .val (.int kx), .val (.int (1 : Int32)), .val (.int (-1 : Int32))] [(.ref nm), (.int (own_cn p2)), (.ref b1)])) (fun t kt => ?_) ?_
                    · show Steps p.tables e below (T9.setTop (mkF m 286 #[.val (.int p0), .val (.int p1), .val (.int p2), .val (.int (own_c0 p0)), .val (.int (own_c1 p0)), .val (.int (own_c2 p0)), .val (.int (own_c3 p0)), .val (.ref b1), .val (.int (own_cn p2)), .val (.int (((p2.toUInt32 >>> ((3 : Int32) &&& 31).toUInt32).toInt32) &&& (3 : Int32))), .val (.ref nm), .val (.int kx), .val (.int (1 : Int32)), .val (.int (-1 : Int32))] [])) t
                      refine XS.aload X9.here hx rfl (hb hby at_286) rfl rfl ?_
                      refine XS.iload X9.here hx rfl (hb hby at_288) rfl ?_
                      refine XS.aload X9.here hx rfl (hb hby at_290) rfl rfl ?_
                      exact kt
                    refine OGo.callS X9 hx hZ (y := (⟨"com/example/kette/kette/JsonObject", "walk", "([Ljava/lang/String;ILjava/lang/Object;)I"⟩ : MethodName)) hown (own_wd hw 28 rfl) (own_wd hw 29 rfl) (own_wd hw 30 rfl) (own_wd hw 31 rfl) (by decide) (rm6 l Z az hw [] b1 (own_cn p2) nm k1 b2_r b4_r b6_r b8_r b2_t b4_t b6_t b8_t (own_by (own_ch (own_c0 p0))) (own_by (own_ch (own_c1 p0))) (own_by (own_ch (own_c2 p0))) (own_by (own_ch (own_c3 p0))) tn (own_by (own_ch kx)) w_COMPACT_STRINGS h9 n0 (Nat.le_trans Z0 KC9.1) V9 Z10_5 Z10_6 Z10_7 Z10_8 Z10_9 Z10_10 Z10_11 Z10_12 Z10_13 Z10_14 Z10_15 Z10_16 Z10_17 Z10_18 Z10_19 Z10_20 E_nm Fv_nm Fc_nm O_tn hC (own_cnt _) Z10_4) (W := 0) (by decide) (by decide) (g := (mkF m 292 #[.val (.int p0), .val (.int p1), .val (.int p2), .val (.int (own_c0 p0)), .val (.int (own_c1 p0)), .val (.int (own_c2 p0)), .val (.int (own_c3 p0)), .val (.ref b1), .val (.int (own_cn p2)), .val (.int (((p2.toUInt32 >>> ((3 : Int32) &&& 31).toUInt32).toInt32) &&& (3 : Int32))), .val (.ref nm), .val (.int kx), .val (.int (1 : Int32)), .val (.int (-1 : Int32))] [(.ref nm), (.int (own_cn p2)), (.ref b1)])) rfl (by rw [hml]; rfl) (argsL := [(.ref b1), (.int (own_cn p2)), (.ref nm)]) (rest := []) (lenOf pd_0_1 rfl) rfl (by show 2 * 0 + _ ≤ _; exact Nat.le_of_eq rfl) (hb hby at_292) rfl e9 (by decide) (by decide) ?_
                    rintro _ T63 L63 X63 ⟨rfl, Nq63, e63⟩
                    have N63 := Fr.app N9 Nq63
                    show OGo _ _ _ _ _ _ _ (T63.setTop (mkF m 295 #[.val (.int p0), .val (.int p1), .val (.int p2), .val (.int (own_c0 p0)), .val (.int (own_c1 p0)), .val (.int (own_c2 p0)), .val (.int (own_c3 p0)), .val (.ref b1), .val (.int (own_cn p2)), .val (.int (((p2.toUInt32 >>> ((3 : Int32) &&& 31).toUInt32).toInt32) &&& (3 : Int32))), .val (.ref nm), .val (.int kx), .val (.int (1 : Int32)), .val (.int (-1 : Int32))] [(.int (f6 (own_cn p2) nm b2_r b4_r b6_r b8_r (own_by (own_ch (own_c0 p0))) (own_by (own_ch (own_c1 p0))) (own_by (own_ch (own_c2 p0))) (own_by (own_ch (own_c3 p0))) (own_by (own_ch kx))))]))
                    refine OGo.step (F' := T63.setTop (mkF m 305 #[.val (.int p0), .val (.int p1), .val (.int p2), .val (.int (own_c0 p0)), .val (.int (own_c1 p0)), .val (.int (own_c2 p0)), .val (.int (own_c3 p0)), .val (.ref b1), .val (.int (own_cn p2)), .val (.int (((p2.toUInt32 >>> ((3 : Int32) &&& 31).toUInt32).toInt32) &&& (3 : Int32))), .val (.ref nm), .val (.int kx), .val (.int (1 : Int32)), .val (.int (-1 : Int32))] [(.int (1 : Int32))])) (fun t kt => ?_) ?_
                    · show Steps p.tables e below (T63.setTop (mkF m 295 #[.val (.int p0), .val (.int p1), .val (.int p2), .val (.int (own_c0 p0)), .val (.int (own_c1 p0)), .val (.int (own_c2 p0)), .val (.int (own_c3 p0)), .val (.ref b1), .val (.int (own_cn p2)), .val (.int (((p2.toUInt32 >>> ((3 : Int32) &&& 31).toUInt32).toInt32) &&& (3 : Int32))), .val (.ref nm), .val (.int kx), .val (.int (1 : Int32)), .val (.int (-1 : Int32))] [(.int (f6 (own_cn p2) nm b2_r b4_r b6_r b8_r (own_by (own_ch (own_c0 p0))) (own_by (own_ch (own_c1 p0))) (own_by (own_ch (own_c2 p0))) (own_by (own_ch (own_c3 p0))) (own_by (own_ch kx))))])) t
                      refine XS.iload X63.here hx rfl (hb hby at_295) rfl ?_
                      refine XS.icmpNo X63.here hx rfl (hb hby at_297) rfl (teq (by rw [own_fin _ (own_c0 p0) (own_c1 p0) (own_c2 p0) (own_c3 p0) kx _ _ _ _ _ _ _ _ _ _ (own_e _ _ _ _ (own_r0 _) hkx hal0) (own_e _ _ _ _ (own_r1 _) hkx hal1) (own_e _ _ _ _ (own_r2 _) hkx hal2) (own_e _ _ _ _ (own_r3 _) hkx hal3) (own_cnt _), own_exp, if_neg (fun q => hc217 q.1), if_neg (fun q => hc242 q.2), if_neg (fun q => hc261 q.2), if_neg (fun q => hc273 q.1)])).2 ?_
                      refine XS.iconst X63.here hx rfl (hb hby at_300) ?_
                      refine XS.goto X63.here hx rfl (pc0 := 301) (pc' := 305) rfl (hb hby at_301) (by decide) (by decide) ?_
                      exact kt
                    refine OGo.retZ X63 hx hlk (t := .boolean) (z' := (1 : Int32)) hret (by simp) (hb hby at_305) rfl ?_ (by decide) (by decide)
                    show Q0 Z p0 p1 p2 w_high w_cache w_COMPACT_STRINGS h0 n0 _ T63.heap _
                    rw [e63]
                    exact ⟨rfl, N63, KC9⟩
              · refine OGo.step (F' := T9.setTop (mkF m 270 #[.val (.int p0), .val (.int p1), .val (.int p2), .val (.int (own_c0 p0)), .val (.int (own_c1 p0)), .val (.int (own_c2 p0)), .val (.int (own_c3 p0)), .val (.ref b1), .val (.int (own_cn p2)), .val (.int (((p2.toUInt32 >>> ((3 : Int32) &&& 31).toUInt32).toInt32) &&& (3 : Int32))), .val (.ref nm), .val (.int kx), .val (.int (1 : Int32)), .val (.int (-1 : Int32))] [])) (fun t kt => ?_) ?_
                · show Steps p.tables e below (T9.setTop (mkF m 254 #[.val (.int p0), .val (.int p1), .val (.int p2), .val (.int (own_c0 p0)), .val (.int (own_c1 p0)), .val (.int (own_c2 p0)), .val (.int (own_c3 p0)), .val (.ref b1), .val (.int (own_cn p2)), .val (.int (((p2.toUInt32 >>> ((3 : Int32) &&& 31).toUInt32).toInt32) &&& (3 : Int32))), .val (.ref nm), .val (.int kx), .val (.int (1 : Int32)), .val (.int (-1 : Int32))] [(.int (2 : Int32)), (.int (own_cn p2))])) t
                  refine XS.icmpYes X9.here hx rfl (pc0 := 254) (pc' := 270) rfl (hb hby at_254) rfl (flt hc254).2.2.2 (by decide) (by decide) ?_
                  exact kt
                refine OGo.step (F' := T9.setTop (mkF m 273 #[.val (.int p0), .val (.int p1), .val (.int p2), .val (.int (own_c0 p0)), .val (.int (own_c1 p0)), .val (.int (own_c2 p0)), .val (.int (own_c3 p0)), .val (.ref b1), .val (.int (own_cn p2)), .val (.int (((p2.toUInt32 >>> ((3 : Int32) &&& 31).toUInt32).toInt32) &&& (3 : Int32))), .val (.ref nm), .val (.int kx), .val (.int (1 : Int32)), .val (.int (-1 : Int32))] [(.int (3 : Int32)), (.int (own_cn p2))])) (fun t kt => ?_) ?_
                · show Steps p.tables e below (T9.setTop (mkF m 270 #[.val (.int p0), .val (.int p1), .val (.int p2), .val (.int (own_c0 p0)), .val (.int (own_c1 p0)), .val (.int (own_c2 p0)), .val (.int (own_c3 p0)), .val (.ref b1), .val (.int (own_cn p2)), .val (.int (((p2.toUInt32 >>> ((3 : Int32) &&& 31).toUInt32).toInt32) &&& (3 : Int32))), .val (.ref nm), .val (.int kx), .val (.int (1 : Int32)), .val (.int (-1 : Int32))] [])) t
                  refine XS.iload X9.here hx rfl (hb hby at_270) rfl ?_
                  refine XS.iconst X9.here hx rfl (hb hby at_272) ?_
                  exact kt
                by_cases hc273 : (3 : Int32) < (own_cn p2)
                · refine OGo.step (F' := T9.setTop (mkF m 276 #[.val (.int p0), .val (.int p1), .val (.int p2), .val (.int (own_c0 p0)), .val (.int (own_c1 p0)), .val (.int (own_c2 p0)), .val (.int (own_c3 p0)), .val (.ref b1), .val (.int (own_cn p2)), .val (.int (((p2.toUInt32 >>> ((3 : Int32) &&& 31).toUInt32).toInt32) &&& (3 : Int32))), .val (.ref nm), .val (.int kx), .val (.int (1 : Int32)), .val (.int (-1 : Int32))] [])) (fun t kt => ?_) ?_
                  · show Steps p.tables e below (T9.setTop (mkF m 273 #[.val (.int p0), .val (.int p1), .val (.int p2), .val (.int (own_c0 p0)), .val (.int (own_c1 p0)), .val (.int (own_c2 p0)), .val (.int (own_c3 p0)), .val (.ref b1), .val (.int (own_cn p2)), .val (.int (((p2.toUInt32 >>> ((3 : Int32) &&& 31).toUInt32).toInt32) &&& (3 : Int32))), .val (.ref nm), .val (.int kx), .val (.int (1 : Int32)), .val (.int (-1 : Int32))] [(.int (3 : Int32)), (.int (own_cn p2))])) t
                    refine XS.icmpNo X9.here hx rfl (hb hby at_273) rfl (tlt hc273).2.2.2 ?_
                    exact kt
                  refine OGo.step (F' := T9.setTop (mkF m 280 #[.val (.int p0), .val (.int p1), .val (.int p2), .val (.int (own_c0 p0)), .val (.int (own_c1 p0)), .val (.int (own_c2 p0)), .val (.int (own_c3 p0)), .val (.ref b1), .val (.int (own_cn p2)), .val (.int (((p2.toUInt32 >>> ((3 : Int32) &&& 31).toUInt32).toInt32) &&& (3 : Int32))), .val (.ref nm), .val (.int kx), .val (.int (1 : Int32)), .val (.int (-1 : Int32))] [(.int kx), (.int (own_c3 p0))])) (fun t kt => ?_) ?_
                  · show Steps p.tables e below (T9.setTop (mkF m 276 #[.val (.int p0), .val (.int p1), .val (.int p2), .val (.int (own_c0 p0)), .val (.int (own_c1 p0)), .val (.int (own_c2 p0)), .val (.int (own_c3 p0)), .val (.ref b1), .val (.int (own_cn p2)), .val (.int (((p2.toUInt32 >>> ((3 : Int32) &&& 31).toUInt32).toInt32) &&& (3 : Int32))), .val (.ref nm), .val (.int kx), .val (.int (1 : Int32)), .val (.int (-1 : Int32))] [])) t
                    refine XS.iload X9.here hx rfl (hb hby at_276) rfl ?_
                    refine XS.iload X9.here hx rfl (hb hby at_278) rfl ?_
                    exact kt
                  by_cases hc280 : (own_c3 p0) = kx
                  · refine OGo.step (F' := T9.setTop (mkF m 283 #[.val (.int p0), .val (.int p1), .val (.int p2), .val (.int (own_c0 p0)), .val (.int (own_c1 p0)), .val (.int (own_c2 p0)), .val (.int (own_c3 p0)), .val (.ref b1), .val (.int (own_cn p2)), .val (.int (((p2.toUInt32 >>> ((3 : Int32) &&& 31).toUInt32).toInt32) &&& (3 : Int32))), .val (.ref nm), .val (.int kx), .val (.int (1 : Int32)), .val (.int (-1 : Int32))] [])) (fun t kt => ?_) ?_
                    · show Steps p.tables e below (T9.setTop (mkF m 280 #[.val (.int p0), .val (.int p1), .val (.int p2), .val (.int (own_c0 p0)), .val (.int (own_c1 p0)), .val (.int (own_c2 p0)), .val (.int (own_c3 p0)), .val (.ref b1), .val (.int (own_cn p2)), .val (.int (((p2.toUInt32 >>> ((3 : Int32) &&& 31).toUInt32).toInt32) &&& (3 : Int32))), .val (.ref nm), .val (.int kx), .val (.int (1 : Int32)), .val (.int (-1 : Int32))] [(.int kx), (.int (own_c3 p0))])) t
                      refine XS.icmpNo X9.here hx rfl (hb hby at_280) rfl (teq hc280).2 ?_
                      exact kt
                    refine OGo.step (F' := T9.setTop (mkF m 292 #[.val (.int p0), .val (.int p1), .val (.int p2), .val (.int (own_c0 p0)), .val (.int (own_c1 p0)), .val (.int (own_c2 p0)), .val (.int (own_c3 p0)), .val (.ref b1), .val (.int (own_cn p2)), .val (.int (((p2.toUInt32 >>> ((3 : Int32) &&& 31).toUInt32).toInt32) &&& (3 : Int32))), .val (.ref nm), .val (.int kx), .val (.int (1 : Int32)), .val (.int (3 : Int32))] [(.ref nm), (.int (own_cn p2)), (.ref b1)])) (fun t kt => ?_) ?_
                    · show Steps p.tables e below (T9.setTop (mkF m 283 #[.val (.int p0), .val (.int p1), .val (.int p2), .val (.int (own_c0 p0)), .val (.int (own_c1 p0)), .val (.int (own_c2 p0)), .val (.int (own_c3 p0)), .val (.ref b1), .val (.int (own_cn p2)), .val (.int (((p2.toUInt32 >>> ((3 : Int32) &&& 31).toUInt32).toInt32) &&& (3 : Int32))), .val (.ref nm), .val (.int kx), .val (.int (1 : Int32)), .val (.int (-1 : Int32))] [])) t
                      refine XS.iconst X9.here hx rfl (hb hby at_283) ?_
                      refine XS.istore X9.here hx rfl (hb hby at_284) rfl (l' := #[.val (.int p0), .val (.int p1), .val (.int p2), .val (.int (own_c0 p0)), .val (.int (own_c1 p0)), .val (.int (own_c2 p0)), .val (.int (own_c3 p0)), .val (.ref b1), .val (.int (own_cn p2)), .val (.int (((p2.toUInt32 >>> ((3 : Int32) &&& 31).toUInt32).toInt32) &&& (3 : Int32))), .val (.ref nm), .val (.int kx), .val (.int (1 : Int32)), .val (.int (3 : Int32))]) rfl ?_
                      refine XS.aload X9.here hx rfl (hb hby at_286) rfl rfl ?_
                      refine XS.iload X9.here hx rfl (hb hby at_288) rfl ?_
                      refine XS.aload X9.here hx rfl (hb hby at_290) rfl rfl ?_
                      exact kt
                    refine OGo.callS X9 hx hZ (y := (⟨"com/example/kette/kette/JsonObject", "walk", "([Ljava/lang/String;ILjava/lang/Object;)I"⟩ : MethodName)) hown (own_wd hw 28 rfl) (own_wd hw 29 rfl) (own_wd hw 30 rfl) (own_wd hw 31 rfl) (by decide) (rm6 l Z az hw [] b1 (own_cn p2) nm k1 b2_r b4_r b6_r b8_r b2_t b4_t b6_t b8_t (own_by (own_ch (own_c0 p0))) (own_by (own_ch (own_c1 p0))) (own_by (own_ch (own_c2 p0))) (own_by (own_ch (own_c3 p0))) tn (own_by (own_ch kx)) w_COMPACT_STRINGS h9 n0 (Nat.le_trans Z0 KC9.1) V9 Z10_5 Z10_6 Z10_7 Z10_8 Z10_9 Z10_10 Z10_11 Z10_12 Z10_13 Z10_14 Z10_15 Z10_16 Z10_17 Z10_18 Z10_19 Z10_20 E_nm Fv_nm Fc_nm O_tn hC (own_cnt _) Z10_4) (W := 0) (by decide) (by decide) (g := (mkF m 292 #[.val (.int p0), .val (.int p1), .val (.int p2), .val (.int (own_c0 p0)), .val (.int (own_c1 p0)), .val (.int (own_c2 p0)), .val (.int (own_c3 p0)), .val (.ref b1), .val (.int (own_cn p2)), .val (.int (((p2.toUInt32 >>> ((3 : Int32) &&& 31).toUInt32).toInt32) &&& (3 : Int32))), .val (.ref nm), .val (.int kx), .val (.int (1 : Int32)), .val (.int (3 : Int32))] [(.ref nm), (.int (own_cn p2)), (.ref b1)])) rfl (by rw [hml]; rfl) (argsL := [(.ref b1), (.int (own_cn p2)), (.ref nm)]) (rest := []) (lenOf pd_0_1 rfl) rfl (by show 2 * 0 + _ ≤ _; exact Nat.le_of_eq rfl) (hb hby at_292) rfl e9 (by decide) (by decide) ?_
                    rintro _ T64 L64 X64 ⟨rfl, Nq64, e64⟩
                    have N64 := Fr.app N9 Nq64
                    show OGo _ _ _ _ _ _ _ (T64.setTop (mkF m 295 #[.val (.int p0), .val (.int p1), .val (.int p2), .val (.int (own_c0 p0)), .val (.int (own_c1 p0)), .val (.int (own_c2 p0)), .val (.int (own_c3 p0)), .val (.ref b1), .val (.int (own_cn p2)), .val (.int (((p2.toUInt32 >>> ((3 : Int32) &&& 31).toUInt32).toInt32) &&& (3 : Int32))), .val (.ref nm), .val (.int kx), .val (.int (1 : Int32)), .val (.int (3 : Int32))] [(.int (f6 (own_cn p2) nm b2_r b4_r b6_r b8_r (own_by (own_ch (own_c0 p0))) (own_by (own_ch (own_c1 p0))) (own_by (own_ch (own_c2 p0))) (own_by (own_ch (own_c3 p0))) (own_by (own_ch kx))))]))
                    refine OGo.step (F' := T64.setTop (mkF m 305 #[.val (.int p0), .val (.int p1), .val (.int p2), .val (.int (own_c0 p0)), .val (.int (own_c1 p0)), .val (.int (own_c2 p0)), .val (.int (own_c3 p0)), .val (.ref b1), .val (.int (own_cn p2)), .val (.int (((p2.toUInt32 >>> ((3 : Int32) &&& 31).toUInt32).toInt32) &&& (3 : Int32))), .val (.ref nm), .val (.int kx), .val (.int (1 : Int32)), .val (.int (3 : Int32))] [(.int (1 : Int32))])) (fun t kt => ?_) ?_
                    · show Steps p.tables e below (T64.setTop (mkF m 295 #[.val (.int p0), .val (.int p1), .val (.int p2), .val (.int (own_c0 p0)), .val (.int (own_c1 p0)), .val (.int (own_c2 p0)), .val (.int (own_c3 p0)), .val (.ref b1), .val (.int (own_cn p2)), .val (.int (((p2.toUInt32 >>> ((3 : Int32) &&& 31).toUInt32).toInt32) &&& (3 : Int32))), .val (.ref nm), .val (.int kx), .val (.int (1 : Int32)), .val (.int (3 : Int32))] [(.int (f6 (own_cn p2) nm b2_r b4_r b6_r b8_r (own_by (own_ch (own_c0 p0))) (own_by (own_ch (own_c1 p0))) (own_by (own_ch (own_c2 p0))) (own_by (own_ch (own_c3 p0))) (own_by (own_ch kx))))])) t
                      refine XS.iload X64.here hx rfl (hb hby at_295) rfl ?_
                      refine XS.icmpNo X64.here hx rfl (hb hby at_297) rfl (teq (by rw [own_fin _ (own_c0 p0) (own_c1 p0) (own_c2 p0) (own_c3 p0) kx _ _ _ _ _ _ _ _ _ _ (own_e _ _ _ _ (own_r0 _) hkx hal0) (own_e _ _ _ _ (own_r1 _) hkx hal1) (own_e _ _ _ _ (own_r2 _) hkx hal2) (own_e _ _ _ _ (own_r3 _) hkx hal3) (own_cnt _), own_exp, if_neg (fun q => hc217 q.1), if_neg (fun q => hc242 q.2), if_neg (fun q => hc254 q.1), if_pos ⟨hc273, hc280⟩])).2 ?_
                      refine XS.iconst X64.here hx rfl (hb hby at_300) ?_
                      refine XS.goto X64.here hx rfl (pc0 := 301) (pc' := 305) rfl (hb hby at_301) (by decide) (by decide) ?_
                      exact kt
                    refine OGo.retZ X64 hx hlk (t := .boolean) (z' := (1 : Int32)) hret (by simp) (hb hby at_305) rfl ?_ (by decide) (by decide)
                    show Q0 Z p0 p1 p2 w_high w_cache w_COMPACT_STRINGS h0 n0 _ T64.heap _
                    rw [e64]
                    exact ⟨rfl, N64, KC9⟩
                  · refine OGo.step (F' := T9.setTop (mkF m 286 #[.val (.int p0), .val (.int p1), .val (.int p2), .val (.int (own_c0 p0)), .val (.int (own_c1 p0)), .val (.int (own_c2 p0)), .val (.int (own_c3 p0)), .val (.ref b1), .val (.int (own_cn p2)), .val (.int (((p2.toUInt32 >>> ((3 : Int32) &&& 31).toUInt32).toInt32) &&& (3 : Int32))), .val (.ref nm), .val (.int kx), .val (.int (1 : Int32)), .val (.int (-1 : Int32))] [])) (fun t kt => ?_) ?_
                    · show Steps p.tables e below (T9.setTop (mkF m 280 #[.val (.int p0), .val (.int p1), .val (.int p2), .val (.int (own_c0 p0)), .val (.int (own_c1 p0)), .val (.int (own_c2 p0)), .val (.int (own_c3 p0)), .val (.ref b1), .val (.int (own_cn p2)), .val (.int (((p2.toUInt32 >>> ((3 : Int32) &&& 31).toUInt32).toInt32) &&& (3 : Int32))), .val (.ref nm), .val (.int kx), .val (.int (1 : Int32)), .val (.int (-1 : Int32))] [(.int kx), (.int (own_c3 p0))])) t
                      refine XS.icmpYes X9.here hx rfl (pc0 := 280) (pc' := 286) rfl (hb hby at_280) rfl (feq hc280).2 (by decide) (by decide) ?_
                      exact kt
                    refine OGo.step (F' := T9.setTop (mkF m 292 #[.val (.int p0), .val (.int p1), .val (.int p2), .val (.int (own_c0 p0)), .val (.int (own_c1 p0)), .val (.int (own_c2 p0)), .val (.int (own_c3 p0)), .val (.ref b1), .val (.int (own_cn p2)), .val (.int (((p2.toUInt32 >>> ((3 : Int32) &&& 31).toUInt32).toInt32) &&& (3 : Int32))), .val (.ref nm), .val (.int kx), .val (.int (1 : Int32)), .val (.int (-1 : Int32))] [(.ref nm), (.int (own_cn p2)), (.ref b1)])) (fun t kt => ?_) ?_
                    · show Steps p.tables e below (T9.setTop (mkF m 286 #[.val (.int p0), .val (.int p1), .val (.int p2), .val (.int (own_c0 p0)), .val (.int (own_c1 p0)), .val (.int (own_c2 p0)), .val (.int (own_c3 p0)), .val (.ref b1), .val (.int (own_cn p2)), .val (.int (((p2.toUInt32 >>> ((3 : Int32) &&& 31).toUInt32).toInt32) &&& (3 : Int32))), .val (.ref nm), .val (.int kx), .val (.int (1 : Int32)), .val (.int (-1 : Int32))] [])) t
                      refine XS.aload X9.here hx rfl (hb hby at_286) rfl rfl ?_
                      refine XS.iload X9.here hx rfl (hb hby at_288) rfl ?_
                      refine XS.aload X9.here hx rfl (hb hby at_290) rfl rfl ?_
                      exact kt
                    refine OGo.callS X9 hx hZ (y := (⟨"com/example/kette/kette/JsonObject", "walk", "([Ljava/lang/String;ILjava/lang/Object;)I"⟩ : MethodName)) hown (own_wd hw 28 rfl) (own_wd hw 29 rfl) (own_wd hw 30 rfl) (own_wd hw 31 rfl) (by decide) (rm6 l Z az hw [] b1 (own_cn p2) nm k1 b2_r b4_r b6_r b8_r b2_t b4_t b6_t b8_t (own_by (own_ch (own_c0 p0))) (own_by (own_ch (own_c1 p0))) (own_by (own_ch (own_c2 p0))) (own_by (own_ch (own_c3 p0))) tn (own_by (own_ch kx)) w_COMPACT_STRINGS h9 n0 (Nat.le_trans Z0 KC9.1) V9 Z10_5 Z10_6 Z10_7 Z10_8 Z10_9 Z10_10 Z10_11 Z10_12 Z10_13 Z10_14 Z10_15 Z10_16 Z10_17 Z10_18 Z10_19 Z10_20 E_nm Fv_nm Fc_nm O_tn hC (own_cnt _) Z10_4) (W := 0) (by decide) (by decide) (g := (mkF m 292 #[.val (.int p0), .val (.int p1), .val (.int p2), .val (.int (own_c0 p0)), .val (.int (own_c1 p0)), .val (.int (own_c2 p0)), .val (.int (own_c3 p0)), .val (.ref b1), .val (.int (own_cn p2)), .val (.int (((p2.toUInt32 >>> ((3 : Int32) &&& 31).toUInt32).toInt32) &&& (3 : Int32))), .val (.ref nm), .val (.int kx), .val (.int (1 : Int32)), .val (.int (-1 : Int32))] [(.ref nm), (.int (own_cn p2)), (.ref b1)])) rfl (by rw [hml]; rfl) (argsL := [(.ref b1), (.int (own_cn p2)), (.ref nm)]) (rest := []) (lenOf pd_0_1 rfl) rfl (by show 2 * 0 + _ ≤ _; exact Nat.le_of_eq rfl) (hb hby at_292) rfl e9 (by decide) (by decide) ?_
                    rintro _ T65 L65 X65 ⟨rfl, Nq65, e65⟩
                    have N65 := Fr.app N9 Nq65
                    show OGo _ _ _ _ _ _ _ (T65.setTop (mkF m 295 #[.val (.int p0), .val (.int p1), .val (.int p2), .val (.int (own_c0 p0)), .val (.int (own_c1 p0)), .val (.int (own_c2 p0)), .val (.int (own_c3 p0)), .val (.ref b1), .val (.int (own_cn p2)), .val (.int (((p2.toUInt32 >>> ((3 : Int32) &&& 31).toUInt32).toInt32) &&& (3 : Int32))), .val (.ref nm), .val (.int kx), .val (.int (1 : Int32)), .val (.int (-1 : Int32))] [(.int (f6 (own_cn p2) nm b2_r b4_r b6_r b8_r (own_by (own_ch (own_c0 p0))) (own_by (own_ch (own_c1 p0))) (own_by (own_ch (own_c2 p0))) (own_by (own_ch (own_c3 p0))) (own_by (own_ch kx))))]))
                    refine OGo.step (F' := T65.setTop (mkF m 305 #[.val (.int p0), .val (.int p1), .val (.int p2), .val (.int (own_c0 p0)), .val (.int (own_c1 p0)), .val (.int (own_c2 p0)), .val (.int (own_c3 p0)), .val (.ref b1), .val (.int (own_cn p2)), .val (.int (((p2.toUInt32 >>> ((3 : Int32) &&& 31).toUInt32).toInt32) &&& (3 : Int32))), .val (.ref nm), .val (.int kx), .val (.int (1 : Int32)), .val (.int (-1 : Int32))] [(.int (1 : Int32))])) (fun t kt => ?_) ?_
                    · show Steps p.tables e below (T65.setTop (mkF m 295 #[.val (.int p0), .val (.int p1), .val (.int p2), .val (.int (own_c0 p0)), .val (.int (own_c1 p0)), .val (.int (own_c2 p0)), .val (.int (own_c3 p0)), .val (.ref b1), .val (.int (own_cn p2)), .val (.int (((p2.toUInt32 >>> ((3 : Int32) &&& 31).toUInt32).toInt32) &&& (3 : Int32))), .val (.ref nm), .val (.int kx), .val (.int (1 : Int32)), .val (.int (-1 : Int32))] [(.int (f6 (own_cn p2) nm b2_r b4_r b6_r b8_r (own_by (own_ch (own_c0 p0))) (own_by (own_ch (own_c1 p0))) (own_by (own_ch (own_c2 p0))) (own_by (own_ch (own_c3 p0))) (own_by (own_ch kx))))])) t
                      refine XS.iload X65.here hx rfl (hb hby at_295) rfl ?_
                      refine XS.icmpNo X65.here hx rfl (hb hby at_297) rfl (teq (by rw [own_fin _ (own_c0 p0) (own_c1 p0) (own_c2 p0) (own_c3 p0) kx _ _ _ _ _ _ _ _ _ _ (own_e _ _ _ _ (own_r0 _) hkx hal0) (own_e _ _ _ _ (own_r1 _) hkx hal1) (own_e _ _ _ _ (own_r2 _) hkx hal2) (own_e _ _ _ _ (own_r3 _) hkx hal3) (own_cnt _), own_exp, if_neg (fun q => hc217 q.1), if_neg (fun q => hc242 q.2), if_neg (fun q => hc254 q.1), if_neg (fun q => hc280 q.2)])).2 ?_
                      refine XS.iconst X65.here hx rfl (hb hby at_300) ?_
                      refine XS.goto X65.here hx rfl (pc0 := 301) (pc' := 305) rfl (hb hby at_301) (by decide) (by decide) ?_
                      exact kt
                    refine OGo.retZ X65 hx hlk (t := .boolean) (z' := (1 : Int32)) hret (by simp) (hb hby at_305) rfl ?_ (by decide) (by decide)
                    show Q0 Z p0 p1 p2 w_high w_cache w_COMPACT_STRINGS h0 n0 _ T65.heap _
                    rw [e65]
                    exact ⟨rfl, N65, KC9⟩
                · refine OGo.step (F' := T9.setTop (mkF m 286 #[.val (.int p0), .val (.int p1), .val (.int p2), .val (.int (own_c0 p0)), .val (.int (own_c1 p0)), .val (.int (own_c2 p0)), .val (.int (own_c3 p0)), .val (.ref b1), .val (.int (own_cn p2)), .val (.int (((p2.toUInt32 >>> ((3 : Int32) &&& 31).toUInt32).toInt32) &&& (3 : Int32))), .val (.ref nm), .val (.int kx), .val (.int (1 : Int32)), .val (.int (-1 : Int32))] [])) (fun t kt => ?_) ?_
                  · show Steps p.tables e below (T9.setTop (mkF m 273 #[.val (.int p0), .val (.int p1), .val (.int p2), .val (.int (own_c0 p0)), .val (.int (own_c1 p0)), .val (.int (own_c2 p0)), .val (.int (own_c3 p0)), .val (.ref b1), .val (.int (own_cn p2)), .val (.int (((p2.toUInt32 >>> ((3 : Int32) &&& 31).toUInt32).toInt32) &&& (3 : Int32))), .val (.ref nm), .val (.int kx), .val (.int (1 : Int32)), .val (.int (-1 : Int32))] [(.int (3 : Int32)), (.int (own_cn p2))])) t
                    refine XS.icmpYes X9.here hx rfl (pc0 := 273) (pc' := 286) rfl (hb hby at_273) rfl (flt hc273).2.2.2 (by decide) (by decide) ?_
                    exact kt
                  refine OGo.step (F' := T9.setTop (mkF m 292 #[.val (.int p0), .val (.int p1), .val (.int p2), .val (.int (own_c0 p0)), .val (.int (own_c1 p0)), .val (.int (own_c2 p0)), .val (.int (own_c3 p0)), .val (.ref b1), .val (.int (own_cn p2)), .val (.int (((p2.toUInt32 >>> ((3 : Int32) &&& 31).toUInt32).toInt32) &&& (3 : Int32))), .val (.ref nm), .val (.int kx), .val (.int (1 : Int32)), .val (.int (-1 : Int32))] [(.ref nm), (.int (own_cn p2)), (.ref b1)])) (fun t kt => ?_) ?_
                  · show Steps p.tables e below (T9.setTop (mkF m 286 #[.val (.int p0), .val (.int p1), .val (.int p2), .val (.int (own_c0 p0)), .val (.int (own_c1 p0)), .val (.int (own_c2 p0)), .val (.int (own_c3 p0)), .val (.ref b1), .val (.int (own_cn p2)), .val (.int (((p2.toUInt32 >>> ((3 : Int32) &&& 31).toUInt32).toInt32) &&& (3 : Int32))), .val (.ref nm), .val (.int kx), .val (.int (1 : Int32)), .val (.int (-1 : Int32))] [])) t
                    refine XS.aload X9.here hx rfl (hb hby at_286) rfl rfl ?_
                    refine XS.iload X9.here hx rfl (hb hby at_288) rfl ?_
                    refine XS.aload X9.here hx rfl (hb hby at_290) rfl rfl ?_
                    exact kt
                  refine OGo.callS X9 hx hZ (y := (⟨"com/example/kette/kette/JsonObject", "walk", "([Ljava/lang/String;ILjava/lang/Object;)I"⟩ : MethodName)) hown (own_wd hw 28 rfl) (own_wd hw 29 rfl) (own_wd hw 30 rfl) (own_wd hw 31 rfl) (by decide) (rm6 l Z az hw [] b1 (own_cn p2) nm k1 b2_r b4_r b6_r b8_r b2_t b4_t b6_t b8_t (own_by (own_ch (own_c0 p0))) (own_by (own_ch (own_c1 p0))) (own_by (own_ch (own_c2 p0))) (own_by (own_ch (own_c3 p0))) tn (own_by (own_ch kx)) w_COMPACT_STRINGS h9 n0 (Nat.le_trans Z0 KC9.1) V9 Z10_5 Z10_6 Z10_7 Z10_8 Z10_9 Z10_10 Z10_11 Z10_12 Z10_13 Z10_14 Z10_15 Z10_16 Z10_17 Z10_18 Z10_19 Z10_20 E_nm Fv_nm Fc_nm O_tn hC (own_cnt _) Z10_4) (W := 0) (by decide) (by decide) (g := (mkF m 292 #[.val (.int p0), .val (.int p1), .val (.int p2), .val (.int (own_c0 p0)), .val (.int (own_c1 p0)), .val (.int (own_c2 p0)), .val (.int (own_c3 p0)), .val (.ref b1), .val (.int (own_cn p2)), .val (.int (((p2.toUInt32 >>> ((3 : Int32) &&& 31).toUInt32).toInt32) &&& (3 : Int32))), .val (.ref nm), .val (.int kx), .val (.int (1 : Int32)), .val (.int (-1 : Int32))] [(.ref nm), (.int (own_cn p2)), (.ref b1)])) rfl (by rw [hml]; rfl) (argsL := [(.ref b1), (.int (own_cn p2)), (.ref nm)]) (rest := []) (lenOf pd_0_1 rfl) rfl (by show 2 * 0 + _ ≤ _; exact Nat.le_of_eq rfl) (hb hby at_292) rfl e9 (by decide) (by decide) ?_
                  rintro _ T66 L66 X66 ⟨rfl, Nq66, e66⟩
                  have N66 := Fr.app N9 Nq66
                  show OGo _ _ _ _ _ _ _ (T66.setTop (mkF m 295 #[.val (.int p0), .val (.int p1), .val (.int p2), .val (.int (own_c0 p0)), .val (.int (own_c1 p0)), .val (.int (own_c2 p0)), .val (.int (own_c3 p0)), .val (.ref b1), .val (.int (own_cn p2)), .val (.int (((p2.toUInt32 >>> ((3 : Int32) &&& 31).toUInt32).toInt32) &&& (3 : Int32))), .val (.ref nm), .val (.int kx), .val (.int (1 : Int32)), .val (.int (-1 : Int32))] [(.int (f6 (own_cn p2) nm b2_r b4_r b6_r b8_r (own_by (own_ch (own_c0 p0))) (own_by (own_ch (own_c1 p0))) (own_by (own_ch (own_c2 p0))) (own_by (own_ch (own_c3 p0))) (own_by (own_ch kx))))]))
                  refine OGo.step (F' := T66.setTop (mkF m 305 #[.val (.int p0), .val (.int p1), .val (.int p2), .val (.int (own_c0 p0)), .val (.int (own_c1 p0)), .val (.int (own_c2 p0)), .val (.int (own_c3 p0)), .val (.ref b1), .val (.int (own_cn p2)), .val (.int (((p2.toUInt32 >>> ((3 : Int32) &&& 31).toUInt32).toInt32) &&& (3 : Int32))), .val (.ref nm), .val (.int kx), .val (.int (1 : Int32)), .val (.int (-1 : Int32))] [(.int (1 : Int32))])) (fun t kt => ?_) ?_
                  · show Steps p.tables e below (T66.setTop (mkF m 295 #[.val (.int p0), .val (.int p1), .val (.int p2), .val (.int (own_c0 p0)), .val (.int (own_c1 p0)), .val (.int (own_c2 p0)), .val (.int (own_c3 p0)), .val (.ref b1), .val (.int (own_cn p2)), .val (.int (((p2.toUInt32 >>> ((3 : Int32) &&& 31).toUInt32).toInt32) &&& (3 : Int32))), .val (.ref nm), .val (.int kx), .val (.int (1 : Int32)), .val (.int (-1 : Int32))] [(.int (f6 (own_cn p2) nm b2_r b4_r b6_r b8_r (own_by (own_ch (own_c0 p0))) (own_by (own_ch (own_c1 p0))) (own_by (own_ch (own_c2 p0))) (own_by (own_ch (own_c3 p0))) (own_by (own_ch kx))))])) t
                    refine XS.iload X66.here hx rfl (hb hby at_295) rfl ?_
                    refine XS.icmpNo X66.here hx rfl (hb hby at_297) rfl (teq (by rw [own_fin _ (own_c0 p0) (own_c1 p0) (own_c2 p0) (own_c3 p0) kx _ _ _ _ _ _ _ _ _ _ (own_e _ _ _ _ (own_r0 _) hkx hal0) (own_e _ _ _ _ (own_r1 _) hkx hal1) (own_e _ _ _ _ (own_r2 _) hkx hal2) (own_e _ _ _ _ (own_r3 _) hkx hal3) (own_cnt _), own_exp, if_neg (fun q => hc217 q.1), if_neg (fun q => hc242 q.2), if_neg (fun q => hc254 q.1), if_neg (fun q => hc273 q.1)])).2 ?_
                    refine XS.iconst X66.here hx rfl (hb hby at_300) ?_
                    refine XS.goto X66.here hx rfl (pc0 := 301) (pc' := 305) rfl (hb hby at_301) (by decide) (by decide) ?_
                    exact kt
                  refine OGo.retZ X66 hx hlk (t := .boolean) (z' := (1 : Int32)) hret (by simp) (hb hby at_305) rfl ?_ (by decide) (by decide)
                  show Q0 Z p0 p1 p2 w_high w_cache w_COMPACT_STRINGS h0 n0 _ T66.heap _
                  rw [e66]
                  exact ⟨rfl, N66, KC9⟩
          · refine OGo.step (F' := T9.setTop (mkF m 251 #[.val (.int p0), .val (.int p1), .val (.int p2), .val (.int (own_c0 p0)), .val (.int (own_c1 p0)), .val (.int (own_c2 p0)), .val (.int (own_c3 p0)), .val (.ref b1), .val (.int (own_cn p2)), .val (.int (((p2.toUInt32 >>> ((3 : Int32) &&& 31).toUInt32).toInt32) &&& (3 : Int32))), .val (.ref nm), .val (.int kx), .val (.int (1 : Int32)), .val (.int (-1 : Int32))] [])) (fun t kt => ?_) ?_
            · show Steps p.tables e below (T9.setTop (mkF m 235 #[.val (.int p0), .val (.int p1), .val (.int p2), .val (.int (own_c0 p0)), .val (.int (own_c1 p0)), .val (.int (own_c2 p0)), .val (.int (own_c3 p0)), .val (.ref b1), .val (.int (own_cn p2)), .val (.int (((p2.toUInt32 >>> ((3 : Int32) &&& 31).toUInt32).toInt32) &&& (3 : Int32))), .val (.ref nm), .val (.int kx), .val (.int (1 : Int32)), .val (.int (-1 : Int32))] [(.int (1 : Int32)), (.int (own_cn p2))])) t
              refine XS.icmpYes X9.here hx rfl (pc0 := 235) (pc' := 251) rfl (hb hby at_235) rfl (flt hc235).2.2.2 (by decide) (by decide) ?_
              exact kt
            refine OGo.step (F' := T9.setTop (mkF m 254 #[.val (.int p0), .val (.int p1), .val (.int p2), .val (.int (own_c0 p0)), .val (.int (own_c1 p0)), .val (.int (own_c2 p0)), .val (.int (own_c3 p0)), .val (.ref b1), .val (.int (own_cn p2)), .val (.int (((p2.toUInt32 >>> ((3 : Int32) &&& 31).toUInt32).toInt32) &&& (3 : Int32))), .val (.ref nm), .val (.int kx), .val (.int (1 : Int32)), .val (.int (-1 : Int32))] [(.int (2 : Int32)), (.int (own_cn p2))])) (fun t kt => ?_) ?_
            · show Steps p.tables e below (T9.setTop (mkF m 251 #[.val (.int p0), .val (.int p1), .val (.int p2), .val (.int (own_c0 p0)), .val (.int (own_c1 p0)), .val (.int (own_c2 p0)), .val (.int (own_c3 p0)), .val (.ref b1), .val (.int (own_cn p2)), .val (.int (((p2.toUInt32 >>> ((3 : Int32) &&& 31).toUInt32).toInt32) &&& (3 : Int32))), .val (.ref nm), .val (.int kx), .val (.int (1 : Int32)), .val (.int (-1 : Int32))] [])) t
              refine XS.iload X9.here hx rfl (hb hby at_251) rfl ?_
              refine XS.iconst X9.here hx rfl (hb hby at_253) ?_
              exact kt
            by_cases hc254 : (2 : Int32) < (own_cn p2)
            · refine OGo.step (F' := T9.setTop (mkF m 257 #[.val (.int p0), .val (.int p1), .val (.int p2), .val (.int (own_c0 p0)), .val (.int (own_c1 p0)), .val (.int (own_c2 p0)), .val (.int (own_c3 p0)), .val (.ref b1), .val (.int (own_cn p2)), .val (.int (((p2.toUInt32 >>> ((3 : Int32) &&& 31).toUInt32).toInt32) &&& (3 : Int32))), .val (.ref nm), .val (.int kx), .val (.int (1 : Int32)), .val (.int (-1 : Int32))] [])) (fun t kt => ?_) ?_
              · show Steps p.tables e below (T9.setTop (mkF m 254 #[.val (.int p0), .val (.int p1), .val (.int p2), .val (.int (own_c0 p0)), .val (.int (own_c1 p0)), .val (.int (own_c2 p0)), .val (.int (own_c3 p0)), .val (.ref b1), .val (.int (own_cn p2)), .val (.int (((p2.toUInt32 >>> ((3 : Int32) &&& 31).toUInt32).toInt32) &&& (3 : Int32))), .val (.ref nm), .val (.int kx), .val (.int (1 : Int32)), .val (.int (-1 : Int32))] [(.int (2 : Int32)), (.int (own_cn p2))])) t
                refine XS.icmpNo X9.here hx rfl (hb hby at_254) rfl (tlt hc254).2.2.2 ?_
                exact kt
              refine OGo.step (F' := T9.setTop (mkF m 261 #[.val (.int p0), .val (.int p1), .val (.int p2), .val (.int (own_c0 p0)), .val (.int (own_c1 p0)), .val (.int (own_c2 p0)), .val (.int (own_c3 p0)), .val (.ref b1), .val (.int (own_cn p2)), .val (.int (((p2.toUInt32 >>> ((3 : Int32) &&& 31).toUInt32).toInt32) &&& (3 : Int32))), .val (.ref nm), .val (.int kx), .val (.int (1 : Int32)), .val (.int (-1 : Int32))] [(.int kx), (.int (own_c2 p0))])) (fun t kt => ?_) ?_
              · show Steps p.tables e below (T9.setTop (mkF m 257 #[.val (.int p0), .val (.int p1), .val (.int p2), .val (.int (own_c0 p0)), .val (.int (own_c1 p0)), .val (.int (own_c2 p0)), .val (.int (own_c3 p0)), .val (.ref b1), .val (.int (own_cn p2)), .val (.int (((p2.toUInt32 >>> ((3 : Int32) &&& 31).toUInt32).toInt32) &&& (3 : Int32))), .val (.ref nm), .val (.int kx), .val (.int (1 : Int32)), .val (.int (-1 : Int32))] [])) t
                refine XS.iload X9.here hx rfl (hb hby at_257) rfl ?_
                refine XS.iload X9.here hx rfl (hb hby at_259) rfl ?_
                exact kt
              by_cases hc261 : (own_c2 p0) = kx
              · refine OGo.step (F' := T9.setTop (mkF m 264 #[.val (.int p0), .val (.int p1), .val (.int p2), .val (.int (own_c0 p0)), .val (.int (own_c1 p0)), .val (.int (own_c2 p0)), .val (.int (own_c3 p0)), .val (.ref b1), .val (.int (own_cn p2)), .val (.int (((p2.toUInt32 >>> ((3 : Int32) &&& 31).toUInt32).toInt32) &&& (3 : Int32))), .val (.ref nm), .val (.int kx), .val (.int (1 : Int32)), .val (.int (-1 : Int32))] [])) (fun t kt => ?_) ?_
                · show Steps p.tables e below (T9.setTop (mkF m 261 #[.val (.int p0), .val (.int p1), .val (.int p2), .val (.int (own_c0 p0)), .val (.int (own_c1 p0)), .val (.int (own_c2 p0)), .val (.int (own_c3 p0)), .val (.ref b1), .val (.int (own_cn p2)), .val (.int (((p2.toUInt32 >>> ((3 : Int32) &&& 31).toUInt32).toInt32) &&& (3 : Int32))), .val (.ref nm), .val (.int kx), .val (.int (1 : Int32)), .val (.int (-1 : Int32))] [(.int kx), (.int (own_c2 p0))])) t
                  refine XS.icmpNo X9.here hx rfl (hb hby at_261) rfl (teq hc261).2 ?_
                  exact kt
                refine OGo.step (F' := T9.setTop (mkF m 292 #[.val (.int p0), .val (.int p1), .val (.int p2), .val (.int (own_c0 p0)), .val (.int (own_c1 p0)), .val (.int (own_c2 p0)), .val (.int (own_c3 p0)), .val (.ref b1), .val (.int (own_cn p2)), .val (.int (((p2.toUInt32 >>> ((3 : Int32) &&& 31).toUInt32).toInt32) &&& (3 : Int32))), .val (.ref nm), .val (.int kx), .val (.int (1 : Int32)), .val (.int (2 : Int32))] [(.ref nm), (.int (own_cn p2)), (.ref b1)])) (fun t kt => ?_) ?_
                · show Steps p.tables e below (T9.setTop (mkF m 264 #[.val (.int p0), .val (.int p1), .val (.int p2), .val (.int (own_c0 p0)), .val (.int (own_c1 p0)), .val (.int (own_c2 p0)), .val (.int (own_c3 p0)), .val (.ref b1), .val (.int (own_cn p2)), .val (.int (((p2.toUInt32 >>> ((3 : Int32) &&& 31).toUInt32).toInt32) &&& (3 : Int32))), .val (.ref nm), .val (.int kx), .val (.int (1 : Int32)), .val (.int (-1 : Int32))] [])) t
                  refine XS.iconst X9.here hx rfl (hb hby at_264) ?_
                  refine XS.istore X9.here hx rfl (hb hby at_265) rfl (l' := #[.val (.int p0), .val (.int p1), .val (.int p2), .val (.int (own_c0 p0)), .val (.int (own_c1 p0)), .val (.int (own_c2 p0)), .val (.int (own_c3 p0)), .val (.ref b1), .val (.int (own_cn p2)), .val (.int (((p2.toUInt32 >>> ((3 : Int32) &&& 31).toUInt32).toInt32) &&& (3 : Int32))), .val (.ref nm), .val (.int kx), .val (.int (1 : Int32)), .val (.int (2 : Int32))]) rfl ?_
                  refine XS.goto X9.here hx rfl (pc0 := 267) (pc' := 286) rfl (hb hby at_267) (by decide) (by decide) ?_
                  refine XS.aload X9.here hx rfl (hb hby at_286) rfl rfl ?_
                  refine XS.iload X9.here hx rfl (hb hby at_288) rfl ?_
                  refine XS.aload X9.here hx rfl (hb hby at_290) rfl rfl ?_
                  exact kt
                refine OGo.callS X9 hx hZ (y := (⟨"com/example/kette/kette/JsonObject", "walk", "([Ljava/lang/String;ILjava/lang/Object;)I"⟩ : MethodName)) hown (own_wd hw 28 rfl) (own_wd hw 29 rfl) (own_wd hw 30 rfl) (own_wd hw 31 rfl) (by decide) (rm6 l Z az hw [] b1 (own_cn p2) nm k1 b2_r b4_r b6_r b8_r b2_t b4_t b6_t b8_t (own_by (own_ch (own_c0 p0))) (own_by (own_ch (own_c1 p0))) (own_by (own_ch (own_c2 p0))) (own_by (own_ch (own_c3 p0))) tn (own_by (own_ch kx)) w_COMPACT_STRINGS h9 n0 (Nat.le_trans Z0 KC9.1) V9 Z10_5 Z10_6 Z10_7 Z10_8 Z10_9 Z10_10 Z10_11 Z10_12 Z10_13 Z10_14 Z10_15 Z10_16 Z10_17 Z10_18 Z10_19 Z10_20 E_nm Fv_nm Fc_nm O_tn hC (own_cnt _) Z10_4) (W := 0) (by decide) (by decide) (g := (mkF m 292 #[.val (.int p0), .val (.int p1), .val (.int p2), .val (.int (own_c0 p0)), .val (.int (own_c1 p0)), .val (.int (own_c2 p0)), .val (.int (own_c3 p0)), .val (.ref b1), .val (.int (own_cn p2)), .val (.int (((p2.toUInt32 >>> ((3 : Int32) &&& 31).toUInt32).toInt32) &&& (3 : Int32))), .val (.ref nm), .val (.int kx), .val (.int (1 : Int32)), .val (.int (2 : Int32))] [(.ref nm), (.int (own_cn p2)), (.ref b1)])) rfl (by rw [hml]; rfl) (argsL := [(.ref b1), (.int (own_cn p2)), (.ref nm)]) (rest := []) (lenOf pd_0_1 rfl) rfl (by show 2 * 0 + _ ≤ _; exact Nat.le_of_eq rfl) (hb hby at_292) rfl e9 (by decide) (by decide) ?_
                rintro _ T67 L67 X67 ⟨rfl, Nq67, e67⟩
                have N67 := Fr.app N9 Nq67
                show OGo _ _ _ _ _ _ _ (T67.setTop (mkF m 295 #[.val (.int p0), .val (.int p1), .val (.int p2), .val (.int (own_c0 p0)), .val (.int (own_c1 p0)), .val (.int (own_c2 p0)), .val (.int (own_c3 p0)), .val (.ref b1), .val (.int (own_cn p2)), .val (.int (((p2.toUInt32 >>> ((3 : Int32) &&& 31).toUInt32).toInt32) &&& (3 : Int32))), .val (.ref nm), .val (.int kx), .val (.int (1 : Int32)), .val (.int (2 : Int32))] [(.int (f6 (own_cn p2) nm b2_r b4_r b6_r b8_r (own_by (own_ch (own_c0 p0))) (own_by (own_ch (own_c1 p0))) (own_by (own_ch (own_c2 p0))) (own_by (own_ch (own_c3 p0))) (own_by (own_ch kx))))]))
                refine OGo.step (F' := T67.setTop (mkF m 305 #[.val (.int p0), .val (.int p1), .val (.int p2), .val (.int (own_c0 p0)), .val (.int (own_c1 p0)), .val (.int (own_c2 p0)), .val (.int (own_c3 p0)), .val (.ref b1), .val (.int (own_cn p2)), .val (.int (((p2.toUInt32 >>> ((3 : Int32) &&& 31).toUInt32).toInt32) &&& (3 : Int32))), .val (.ref nm), .val (.int kx), .val (.int (1 : Int32)), .val (.int (2 : Int32))] [(.int (1 : Int32))])) (fun t kt => ?_) ?_
                · show Steps p.tables e below (T67.setTop (mkF m 295 #[.val (.int p0), .val (.int p1), .val (.int p2), .val (.int (own_c0 p0)), .val (.int (own_c1 p0)), .val (.int (own_c2 p0)), .val (.int (own_c3 p0)), .val (.ref b1), .val (.int (own_cn p2)), .val (.int (((p2.toUInt32 >>> ((3 : Int32) &&& 31).toUInt32).toInt32) &&& (3 : Int32))), .val (.ref nm), .val (.int kx), .val (.int (1 : Int32)), .val (.int (2 : Int32))] [(.int (f6 (own_cn p2) nm b2_r b4_r b6_r b8_r (own_by (own_ch (own_c0 p0))) (own_by (own_ch (own_c1 p0))) (own_by (own_ch (own_c2 p0))) (own_by (own_ch (own_c3 p0))) (own_by (own_ch kx))))])) t
                  refine XS.iload X67.here hx rfl (hb hby at_295) rfl ?_
                  refine XS.icmpNo X67.here hx rfl (hb hby at_297) rfl (teq (by rw [own_fin _ (own_c0 p0) (own_c1 p0) (own_c2 p0) (own_c3 p0) kx _ _ _ _ _ _ _ _ _ _ (own_e _ _ _ _ (own_r0 _) hkx hal0) (own_e _ _ _ _ (own_r1 _) hkx hal1) (own_e _ _ _ _ (own_r2 _) hkx hal2) (own_e _ _ _ _ (own_r3 _) hkx hal3) (own_cnt _), own_exp, if_neg (fun q => hc217 q.1), if_neg (fun q => hc235 q.1), if_pos ⟨hc254, hc261⟩])).2 ?_
                  refine XS.iconst X67.here hx rfl (hb hby at_300) ?_
                  refine XS.goto X67.here hx rfl (pc0 := 301) (pc' := 305) rfl (hb hby at_301) (by decide) (by decide) ?_
                  exact kt
                refine OGo.retZ X67 hx hlk (t := .boolean) (z' := (1 : Int32)) hret (by simp) (hb hby at_305) rfl ?_ (by decide) (by decide)
                show Q0 Z p0 p1 p2 w_high w_cache w_COMPACT_STRINGS h0 n0 _ T67.heap _
                rw [e67]
                exact ⟨rfl, N67, KC9⟩
              · refine OGo.step (F' := T9.setTop (mkF m 270 #[.val (.int p0), .val (.int p1), .val (.int p2), .val (.int (own_c0 p0)), .val (.int (own_c1 p0)), .val (.int (own_c2 p0)), .val (.int (own_c3 p0)), .val (.ref b1), .val (.int (own_cn p2)), .val (.int (((p2.toUInt32 >>> ((3 : Int32) &&& 31).toUInt32).toInt32) &&& (3 : Int32))), .val (.ref nm), .val (.int kx), .val (.int (1 : Int32)), .val (.int (-1 : Int32))] [])) (fun t kt => ?_) ?_
                · show Steps p.tables e below (T9.setTop (mkF m 261 #[.val (.int p0), .val (.int p1), .val (.int p2), .val (.int (own_c0 p0)), .val (.int (own_c1 p0)), .val (.int (own_c2 p0)), .val (.int (own_c3 p0)), .val (.ref b1), .val (.int (own_cn p2)), .val (.int (((p2.toUInt32 >>> ((3 : Int32) &&& 31).toUInt32).toInt32) &&& (3 : Int32))), .val (.ref nm), .val (.int kx), .val (.int (1 : Int32)), .val (.int (-1 : Int32))] [(.int kx), (.int (own_c2 p0))])) t
                  refine XS.icmpYes X9.here hx rfl (pc0 := 261) (pc' := 270) rfl (hb hby at_261) rfl (feq hc261).2 (by decide) (by decide) ?_
                  exact kt
                refine OGo.step (F' := T9.setTop (mkF m 273 #[.val (.int p0), .val (.int p1), .val (.int p2), .val (.int (own_c0 p0)), .val (.int (own_c1 p0)), .val (.int (own_c2 p0)), .val (.int (own_c3 p0)), .val (.ref b1), .val (.int (own_cn p2)), .val (.int (((p2.toUInt32 >>> ((3 : Int32) &&& 31).toUInt32).toInt32) &&& (3 : Int32))), .val (.ref nm), .val (.int kx), .val (.int (1 : Int32)), .val (.int (-1 : Int32))] [(.int (3 : Int32)), (.int (own_cn p2))])) (fun t kt => ?_) ?_
                · show Steps p.tables e below (T9.setTop (mkF m 270 #[.val (.int p0), .val (.int p1), .val (.int p2), .val (.int (own_c0 p0)), .val (.int (own_c1 p0)), .val (.int (own_c2 p0)), .val (.int (own_c3 p0)), .val (.ref b1), .val (.int (own_cn p2)), .val (.int (((p2.toUInt32 >>> ((3 : Int32) &&& 31).toUInt32).toInt32) &&& (3 : Int32))), .val (.ref nm), .val (.int kx), .val (.int (1 : Int32)), .val (.int (-1 : Int32))] [])) t
                  refine XS.iload X9.here hx rfl (hb hby at_270) rfl ?_
                  refine XS.iconst X9.here hx rfl (hb hby at_272) ?_
                  exact kt
                by_cases hc273 : (3 : Int32) < (own_cn p2)
                · refine OGo.step (F' := T9.setTop (mkF m 276 #[.val (.int p0), .val (.int p1), .val (.int p2), .val (.int (own_c0 p0)), .val (.int (own_c1 p0)), .val (.int (own_c2 p0)), .val (.int (own_c3 p0)), .val (.ref b1), .val (.int (own_cn p2)), .val (.int (((p2.toUInt32 >>> ((3 : Int32) &&& 31).toUInt32).toInt32) &&& (3 : Int32))), .val (.ref nm), .val (.int kx), .val (.int (1 : Int32)), .val (.int (-1 : Int32))] [])) (fun t kt => ?_) ?_
                  · show Steps p.tables e below (T9.setTop (mkF m 273 #[.val (.int p0), .val (.int p1), .val (.int p2), .val (.int (own_c0 p0)), .val (.int (own_c1 p0)), .val (.int (own_c2 p0)), .val (.int (own_c3 p0)), .val (.ref b1), .val (.int (own_cn p2)), .val (.int (((p2.toUInt32 >>> ((3 : Int32) &&& 31).toUInt32).toInt32) &&& (3 : Int32))), .val (.ref nm), .val (.int kx), .val (.int (1 : Int32)), .val (.int (-1 : Int32))] [(.int (3 : Int32)), (.int (own_cn p2))])) t
                    refine XS.icmpNo X9.here hx rfl (hb hby at_273) rfl (tlt hc273).2.2.2 ?_
                    exact kt
                  refine OGo.step (F' := T9.setTop (mkF m 280 #[.val (.int p0), .val (.int p1), .val (.int p2), .val (.int (own_c0 p0)), .val (.int (own_c1 p0)), .val (.int (own_c2 p0)), .val (.int (own_c3 p0)), .val (.ref b1), .val (.int (own_cn p2)), .val (.int (((p2.toUInt32 >>> ((3 : Int32) &&& 31).toUInt32).toInt32) &&& (3 : Int32))), .val (.ref nm), .val (.int kx), .val (.int (1 : Int32)), .val (.int (-1 : Int32))] [(.int kx), (.int (own_c3 p0))])) (fun t kt => ?_) ?_
                  · show Steps p.tables e below (T9.setTop (mkF m 276 #[.val (.int p0), .val (.int p1), .val (.int p2), .val (.int (own_c0 p0)), .val (.int (own_c1 p0)), .val (.int (own_c2 p0)), .val (.int (own_c3 p0)), .val (.ref b1), .val (.int (own_cn p2)), .val (.int (((p2.toUInt32 >>> ((3 : Int32) &&& 31).toUInt32).toInt32) &&& (3 : Int32))), .val (.ref nm), .val (.int kx), .val (.int (1 : Int32)), .val (.int (-1 : Int32))] [])) t
                    refine XS.iload X9.here hx rfl (hb hby at_276) rfl ?_
                    refine XS.iload X9.here hx rfl (hb hby at_278) rfl ?_
                    exact kt
                  by_cases hc280 : (own_c3 p0) = kx
                  · refine OGo.step (F' := T9.setTop (mkF m 283 #[.val (.int p0), .val (.int p1), .val (.int p2), .val (.int (own_c0 p0)), .val (.int (own_c1 p0)), .val (.int (own_c2 p0)), .val (.int (own_c3 p0)), .val (.ref b1), .val (.int (own_cn p2)), .val (.int (((p2.toUInt32 >>> ((3 : Int32) &&& 31).toUInt32).toInt32) &&& (3 : Int32))), .val (.ref nm), .val (.int kx), .val (.int (1 : Int32)), .val (.int (-1 : Int32))] [])) (fun t kt => ?_) ?_
                    · show Steps p.tables e below (T9.setTop (mkF m 280 #[.val (.int p0), .val (.int p1), .val (.int p2), .val (.int (own_c0 p0)), .val (.int (own_c1 p0)), .val (.int (own_c2 p0)), .val (.int (own_c3 p0)), .val (.ref b1), .val (.int (own_cn p2)), .val (.int (((p2.toUInt32 >>> ((3 : Int32) &&& 31).toUInt32).toInt32) &&& (3 : Int32))), .val (.ref nm), .val (.int kx), .val (.int (1 : Int32)), .val (.int (-1 : Int32))] [(.int kx), (.int (own_c3 p0))])) t
                      refine XS.icmpNo X9.here hx rfl (hb hby at_280) rfl (teq hc280).2 ?_
                      exact kt
                    refine OGo.step (F' := T9.setTop (mkF m 292 #[.val (.int p0), .val (.int p1), .val (.int p2), .val (.int (own_c0 p0)), .val (.int (own_c1 p0)), .val (.int (own_c2 p0)), .val (.int (own_c3 p0)), .val (.ref b1), .val (.int (own_cn p2)), .val (.int (((p2.toUInt32 >>> ((3 : Int32) &&& 31).toUInt32).toInt32) &&& (3 : Int32))), .val (.ref nm), .val (.int kx), .val (.int (1 : Int32)), .val (.int (3 : Int32))] [(.ref nm), (.int (own_cn p2)), (.ref b1)])) (fun t kt => ?_) ?_
                    · show Steps p.tables e below (T9.setTop (mkF m 283 #[.val (.int p0), .val (.int p1), .val (.int p2), .val (.int (own_c0 p0)), .val (.int (own_c1 p0)), .val (.int (own_c2 p0)), .val (.int (own_c3 p0)), .val (.ref b1), .val (.int (own_cn p2)), .val (.int (((p2.toUInt32 >>> ((3 : Int32) &&& 31).toUInt32).toInt32) &&& (3 : Int32))), .val (.ref nm), .val (.int kx), .val (.int (1 : Int32)), .val (.int (-1 : Int32))] [])) t
                      refine XS.iconst X9.here hx rfl (hb hby at_283) ?_
                      refine XS.istore X9.here hx rfl (hb hby at_284) rfl (l' := #[.val (.int p0), .val (.int p1), .val (.int p2), .val (.int (own_c0 p0)), .val (.int (own_c1 p0)), .val (.int (own_c2 p0)), .val (.int (own_c3 p0)), .val (.ref b1), .val (.int (own_cn p2)), .val (.int (((p2.toUInt32 >>> ((3 : Int32) &&& 31).toUInt32).toInt32) &&& (3 : Int32))), .val (.ref nm), .val (.int kx), .val (.int (1 : Int32)), .val (.int (3 : Int32))]) rfl ?_
                      refine XS.aload X9.here hx rfl (hb hby at_286) rfl rfl ?_
                      refine XS.iload X9.here hx rfl (hb hby at_288) rfl ?_
                      refine XS.aload X9.here hx rfl (hb hby at_290) rfl rfl ?_
                      exact kt
                    refine OGo.callS X9 hx hZ (y := (⟨"com/example/kette/kette/JsonObject", "walk", "([Ljava/lang/String;ILjava/lang/Object;)I"⟩ : MethodName)) hown (own_wd hw 28 rfl) (own_wd hw 29 rfl) (own_wd hw 30 rfl) (own_wd hw 31 rfl) (by decide) (rm6 l Z az hw [] b1 (own_cn p2) nm k1 b2_r b4_r b6_r b8_r b2_t b4_t b6_t b8_t (own_by (own_ch (own_c0 p0))) (own_by (own_ch (own_c1 p0))) (own_by (own_ch (own_c2 p0))) (own_by (own_ch (own_c3 p0))) tn (own_by (own_ch kx)) w_COMPACT_STRINGS h9 n0 (Nat.le_trans Z0 KC9.1) V9 Z10_5 Z10_6 Z10_7 Z10_8 Z10_9 Z10_10 Z10_11 Z10_12 Z10_13 Z10_14 Z10_15 Z10_16 Z10_17 Z10_18 Z10_19 Z10_20 E_nm Fv_nm Fc_nm O_tn hC (own_cnt _) Z10_4) (W := 0) (by decide) (by decide) (g := (mkF m 292 #[.val (.int p0), .val (.int p1), .val (.int p2), .val (.int (own_c0 p0)), .val (.int (own_c1 p0)), .val (.int (own_c2 p0)), .val (.int (own_c3 p0)), .val (.ref b1), .val (.int (own_cn p2)), .val (.int (((p2.toUInt32 >>> ((3 : Int32) &&& 31).toUInt32).toInt32) &&& (3 : Int32))), .val (.ref nm), .val (.int kx), .val (.int (1 : Int32)), .val (.int (3 : Int32))] [(.ref nm), (.int (own_cn p2)), (.ref b1)])) rfl (by rw [hml]; rfl) (argsL := [(.ref b1), (.int (own_cn p2)), (.ref nm)]) (rest := []) (lenOf pd_0_1 rfl) rfl (by show 2 * 0 + _ ≤ _; exact Nat.le_of_eq rfl) (hb hby at_292) rfl e9 (by decide) (by decide) ?_
                    rintro _ T68 L68 X68 ⟨rfl, Nq68, e68⟩
                    have N68 := Fr.app N9 Nq68
                    show OGo _ _ _ _ _ _ _ (T68.setTop (mkF m 295 #[.val (.int p0), .val (.int p1), .val (.int p2), .val (.int (own_c0 p0)), .val (.int (own_c1 p0)), .val (.int (own_c2 p0)), .val (.int (own_c3 p0)), .val (.ref b1), .val (.int (own_cn p2)), .val (.int (((p2.toUInt32 >>> ((3 : Int32) &&& 31).toUInt32).toInt32) &&& (3 : Int32))), .val (.ref nm), .val (.int kx), .val (.int (1 : Int32)), .val (.int (3 : Int32))] [(.int (f6 (own_cn p2) nm b2_r b4_r b6_r b8_r (own_by (own_ch (own_c0 p0))) (own_by (own_ch (own_c1 p0))) (own_by (own_ch (own_c2 p0))) (own_by (own_ch (own_c3 p0))) (own_by (own_ch kx))))]))
                    refine OGo.step (F' := T68.setTop (mkF m 305 #[.val (.int p0), .val (.int p1), .val (.int p2), .val (.int (own_c0 p0)), .val (.int (own_c1 p0)), .val (.int (own_c2 p0)), .val (.int (own_c3 p0)), .val (.ref b1), .val (.int (own_cn p2)), .val (.int (((p2.toUInt32 >>> ((3 : Int32) &&& 31).toUInt32).toInt32) &&& (3 : Int32))), .val (.ref nm), .val (.int kx), .val (.int (1 : Int32)), .val (.int (3 : Int32))] [(.int (1 : Int32))])) (fun t kt => ?_) ?_
                    · show Steps p.tables e below (T68.setTop (mkF m 295 #[.val (.int p0), .val (.int p1), .val (.int p2), .val (.int (own_c0 p0)), .val (.int (own_c1 p0)), .val (.int (own_c2 p0)), .val (.int (own_c3 p0)), .val (.ref b1), .val (.int (own_cn p2)), .val (.int (((p2.toUInt32 >>> ((3 : Int32) &&& 31).toUInt32).toInt32) &&& (3 : Int32))), .val (.ref nm), .val (.int kx), .val (.int (1 : Int32)), .val (.int (3 : Int32))] [(.int (f6 (own_cn p2) nm b2_r b4_r b6_r b8_r (own_by (own_ch (own_c0 p0))) (own_by (own_ch (own_c1 p0))) (own_by (own_ch (own_c2 p0))) (own_by (own_ch (own_c3 p0))) (own_by (own_ch kx))))])) t
                      refine XS.iload X68.here hx rfl (hb hby at_295) rfl ?_
                      refine XS.icmpNo X68.here hx rfl (hb hby at_297) rfl (teq (by rw [own_fin _ (own_c0 p0) (own_c1 p0) (own_c2 p0) (own_c3 p0) kx _ _ _ _ _ _ _ _ _ _ (own_e _ _ _ _ (own_r0 _) hkx hal0) (own_e _ _ _ _ (own_r1 _) hkx hal1) (own_e _ _ _ _ (own_r2 _) hkx hal2) (own_e _ _ _ _ (own_r3 _) hkx hal3) (own_cnt _), own_exp, if_neg (fun q => hc217 q.1), if_neg (fun q => hc235 q.1), if_neg (fun q => hc261 q.2), if_pos ⟨hc273, hc280⟩])).2 ?_
                      refine XS.iconst X68.here hx rfl (hb hby at_300) ?_
                      refine XS.goto X68.here hx rfl (pc0 := 301) (pc' := 305) rfl (hb hby at_301) (by decide) (by decide) ?_
                      exact kt
                    refine OGo.retZ X68 hx hlk (t := .boolean) (z' := (1 : Int32)) hret (by simp) (hb hby at_305) rfl ?_ (by decide) (by decide)
                    show Q0 Z p0 p1 p2 w_high w_cache w_COMPACT_STRINGS h0 n0 _ T68.heap _
                    rw [e68]
                    exact ⟨rfl, N68, KC9⟩
                  · refine OGo.step (F' := T9.setTop (mkF m 286 #[.val (.int p0), .val (.int p1), .val (.int p2), .val (.int (own_c0 p0)), .val (.int (own_c1 p0)), .val (.int (own_c2 p0)), .val (.int (own_c3 p0)), .val (.ref b1), .val (.int (own_cn p2)), .val (.int (((p2.toUInt32 >>> ((3 : Int32) &&& 31).toUInt32).toInt32) &&& (3 : Int32))), .val (.ref nm), .val (.int kx), .val (.int (1 : Int32)), .val (.int (-1 : Int32))] [])) (fun t kt => ?_) ?_
                    · show Steps p.tables e below (T9.setTop (mkF m 280 #[.val (.int p0), .val (.int p1), .val (.int p2), .val (.int (own_c0 p0)), .val (.int (own_c1 p0)), .val (.int (own_c2 p0)), .val (.int (own_c3 p0)), .val (.ref b1), .val (.int (own_cn p2)), .val (.int (((p2.toUInt32 >>> ((3 : Int32) &&& 31).toUInt32).toInt32) &&& (3 : Int32))), .val (.ref nm), .val (.int kx), .val (.int (1 : Int32)), .val (.int (-1 : Int32))] [(.int kx), (.int (own_c3 p0))])) t
                      refine XS.icmpYes X9.here hx rfl (pc0 := 280) (pc' := 286) rfl (hb hby at_280) rfl (feq hc280).2 (by decide) (by decide) ?_
                      exact kt
                    refine OGo.step (F' := T9.setTop (mkF m 292 #[.val (.int p0), .val (.int p1), .val (.int p2), .val (.int (own_c0 p0)), .val (.int (own_c1 p0)), .val (.int (own_c2 p0)), .val (.int (own_c3 p0)), .val (.ref b1), .val (.int (own_cn p2)), .val (.int (((p2.toUInt32 >>> ((3 : Int32) &&& 31).toUInt32).toInt32) &&& (3 : Int32))), .val (.ref nm), .val (.int kx), .val (.int (1 : Int32)), .val (.int (-1 : Int32))] [(.ref nm), (.int (own_cn p2)), (.ref b1)])) (fun t kt => ?_) ?_
                    · show Steps p.tables e below (T9.setTop (mkF m 286 #[.val (.int p0), .val (.int p1), .val (.int p2), .val (.int (own_c0 p0)), .val (.int (own_c1 p0)), .val (.int (own_c2 p0)), .val (.int (own_c3 p0)), .val (.ref b1), .val (.int (own_cn p2)), .val (.int (((p2.toUInt32 >>> ((3 : Int32) &&& 31).toUInt32).toInt32) &&& (3 : Int32))), .val (.ref nm), .val (.int kx), .val (.int (1 : Int32)), .val (.int (-1 : Int32))] [])) t
                      refine XS.aload X9.here hx rfl (hb hby at_286) rfl rfl ?_
                      refine XS.iload X9.here hx rfl (hb hby at_288) rfl ?_
                      refine XS.aload X9.here hx rfl (hb hby at_290) rfl rfl ?_
                      exact kt
                    refine OGo.callS X9 hx hZ (y := (⟨"com/example/kette/kette/JsonObject", "walk", "([Ljava/lang/String;ILjava/lang/Object;)I"⟩ : MethodName)) hown (own_wd hw 28 rfl) (own_wd hw 29 rfl) (own_wd hw 30 rfl) (own_wd hw 31 rfl) (by decide) (rm6 l Z az hw [] b1 (own_cn p2) nm k1 b2_r b4_r b6_r b8_r b2_t b4_t b6_t b8_t (own_by (own_ch (own_c0 p0))) (own_by (own_ch (own_c1 p0))) (own_by (own_ch (own_c2 p0))) (own_by (own_ch (own_c3 p0))) tn (own_by (own_ch kx)) w_COMPACT_STRINGS h9 n0 (Nat.le_trans Z0 KC9.1) V9 Z10_5 Z10_6 Z10_7 Z10_8 Z10_9 Z10_10 Z10_11 Z10_12 Z10_13 Z10_14 Z10_15 Z10_16 Z10_17 Z10_18 Z10_19 Z10_20 E_nm Fv_nm Fc_nm O_tn hC (own_cnt _) Z10_4) (W := 0) (by decide) (by decide) (g := (mkF m 292 #[.val (.int p0), .val (.int p1), .val (.int p2), .val (.int (own_c0 p0)), .val (.int (own_c1 p0)), .val (.int (own_c2 p0)), .val (.int (own_c3 p0)), .val (.ref b1), .val (.int (own_cn p2)), .val (.int (((p2.toUInt32 >>> ((3 : Int32) &&& 31).toUInt32).toInt32) &&& (3 : Int32))), .val (.ref nm), .val (.int kx), .val (.int (1 : Int32)), .val (.int (-1 : Int32))] [(.ref nm), (.int (own_cn p2)), (.ref b1)])) rfl (by rw [hml]; rfl) (argsL := [(.ref b1), (.int (own_cn p2)), (.ref nm)]) (rest := []) (lenOf pd_0_1 rfl) rfl (by show 2 * 0 + _ ≤ _; exact Nat.le_of_eq rfl) (hb hby at_292) rfl e9 (by decide) (by decide) ?_
                    rintro _ T69 L69 X69 ⟨rfl, Nq69, e69⟩
                    have N69 := Fr.app N9 Nq69
                    show OGo _ _ _ _ _ _ _ (T69.setTop (mkF m 295 #[.val (.int p0), .val (.int p1), .val (.int p2), .val (.int (own_c0 p0)), .val (.int (own_c1 p0)), .val (.int (own_c2 p0)), .val (.int (own_c3 p0)), .val (.ref b1), .val (.int (own_cn p2)), .val (.int (((p2.toUInt32 >>> ((3 : Int32) &&& 31).toUInt32).toInt32) &&& (3 : Int32))), .val (.ref nm), .val (.int kx), .val (.int (1 : Int32)), .val (.int (-1 : Int32))] [(.int (f6 (own_cn p2) nm b2_r b4_r b6_r b8_r (own_by (own_ch (own_c0 p0))) (own_by (own_ch (own_c1 p0))) (own_by (own_ch (own_c2 p0))) (own_by (own_ch (own_c3 p0))) (own_by (own_ch kx))))]))
                    refine OGo.step (F' := T69.setTop (mkF m 305 #[.val (.int p0), .val (.int p1), .val (.int p2), .val (.int (own_c0 p0)), .val (.int (own_c1 p0)), .val (.int (own_c2 p0)), .val (.int (own_c3 p0)), .val (.ref b1), .val (.int (own_cn p2)), .val (.int (((p2.toUInt32 >>> ((3 : Int32) &&& 31).toUInt32).toInt32) &&& (3 : Int32))), .val (.ref nm), .val (.int kx), .val (.int (1 : Int32)), .val (.int (-1 : Int32))] [(.int (1 : Int32))])) (fun t kt => ?_) ?_
                    · show Steps p.tables e below (T69.setTop (mkF m 295 #[.val (.int p0), .val (.int p1), .val (.int p2), .val (.int (own_c0 p0)), .val (.int (own_c1 p0)), .val (.int (own_c2 p0)), .val (.int (own_c3 p0)), .val (.ref b1), .val (.int (own_cn p2)), .val (.int (((p2.toUInt32 >>> ((3 : Int32) &&& 31).toUInt32).toInt32) &&& (3 : Int32))), .val (.ref nm), .val (.int kx), .val (.int (1 : Int32)), .val (.int (-1 : Int32))] [(.int (f6 (own_cn p2) nm b2_r b4_r b6_r b8_r (own_by (own_ch (own_c0 p0))) (own_by (own_ch (own_c1 p0))) (own_by (own_ch (own_c2 p0))) (own_by (own_ch (own_c3 p0))) (own_by (own_ch kx))))])) t
                      refine XS.iload X69.here hx rfl (hb hby at_295) rfl ?_
                      refine XS.icmpNo X69.here hx rfl (hb hby at_297) rfl (teq (by rw [own_fin _ (own_c0 p0) (own_c1 p0) (own_c2 p0) (own_c3 p0) kx _ _ _ _ _ _ _ _ _ _ (own_e _ _ _ _ (own_r0 _) hkx hal0) (own_e _ _ _ _ (own_r1 _) hkx hal1) (own_e _ _ _ _ (own_r2 _) hkx hal2) (own_e _ _ _ _ (own_r3 _) hkx hal3) (own_cnt _), own_exp, if_neg (fun q => hc217 q.1), if_neg (fun q => hc235 q.1), if_neg (fun q => hc261 q.2), if_neg (fun q => hc280 q.2)])).2 ?_
                      refine XS.iconst X69.here hx rfl (hb hby at_300) ?_
                      refine XS.goto X69.here hx rfl (pc0 := 301) (pc' := 305) rfl (hb hby at_301) (by decide) (by decide) ?_
                      exact kt
                    refine OGo.retZ X69 hx hlk (t := .boolean) (z' := (1 : Int32)) hret (by simp) (hb hby at_305) rfl ?_ (by decide) (by decide)
                    show Q0 Z p0 p1 p2 w_high w_cache w_COMPACT_STRINGS h0 n0 _ T69.heap _
                    rw [e69]
                    exact ⟨rfl, N69, KC9⟩
                · refine OGo.step (F' := T9.setTop (mkF m 286 #[.val (.int p0), .val (.int p1), .val (.int p2), .val (.int (own_c0 p0)), .val (.int (own_c1 p0)), .val (.int (own_c2 p0)), .val (.int (own_c3 p0)), .val (.ref b1), .val (.int (own_cn p2)), .val (.int (((p2.toUInt32 >>> ((3 : Int32) &&& 31).toUInt32).toInt32) &&& (3 : Int32))), .val (.ref nm), .val (.int kx), .val (.int (1 : Int32)), .val (.int (-1 : Int32))] [])) (fun t kt => ?_) ?_
                  · show Steps p.tables e below (T9.setTop (mkF m 273 #[.val (.int p0), .val (.int p1), .val (.int p2), .val (.int (own_c0 p0)), .val (.int (own_c1 p0)), .val (.int (own_c2 p0)), .val (.int (own_c3 p0)), .val (.ref b1), .val (.int (own_cn p2)), .val (.int (((p2.toUInt32 >>> ((3 : Int32) &&& 31).toUInt32).toInt32) &&& (3 : Int32))), .val (.ref nm), .val (.int kx), .val (.int (1 : Int32)), .val (.int (-1 : Int32))] [(.int (3 : Int32)), (.int (own_cn p2))])) t
                    refine XS.icmpYes X9.here hx rfl (pc0 := 273) (pc' := 286) rfl (hb hby at_273) rfl (flt hc273).2.2.2 (by decide) (by decide) ?_
                    exact kt
                  refine OGo.step (F' := T9.setTop (mkF m 292 #[.val (.int p0), .val (.int p1), .val (.int p2), .val (.int (own_c0 p0)), .val (.int (own_c1 p0)), .val (.int (own_c2 p0)), .val (.int (own_c3 p0)), .val (.ref b1), .val (.int (own_cn p2)), .val (.int (((p2.toUInt32 >>> ((3 : Int32) &&& 31).toUInt32).toInt32) &&& (3 : Int32))), .val (.ref nm), .val (.int kx), .val (.int (1 : Int32)), .val (.int (-1 : Int32))] [(.ref nm), (.int (own_cn p2)), (.ref b1)])) (fun t kt => ?_) ?_
                  · show Steps p.tables e below (T9.setTop (mkF m 286 #[.val (.int p0), .val (.int p1), .val (.int p2), .val (.int (own_c0 p0)), .val (.int (own_c1 p0)), .val (.int (own_c2 p0)), .val (.int (own_c3 p0)), .val (.ref b1), .val (.int (own_cn p2)), .val (.int (((p2.toUInt32 >>> ((3 : Int32) &&& 31).toUInt32).toInt32) &&& (3 : Int32))), .val (.ref nm), .val (.int kx), .val (.int (1 : Int32)), .val (.int (-1 : Int32))] [])) t
                    refine XS.aload X9.here hx rfl (hb hby at_286) rfl rfl ?_
                    refine XS.iload X9.here hx rfl (hb hby at_288) rfl ?_
                    refine XS.aload X9.here hx rfl (hb hby at_290) rfl rfl ?_
                    exact kt
                  refine OGo.callS X9 hx hZ (y := (⟨"com/example/kette/kette/JsonObject", "walk", "([Ljava/lang/String;ILjava/lang/Object;)I"⟩ : MethodName)) hown (own_wd hw 28 rfl) (own_wd hw 29 rfl) (own_wd hw 30 rfl) (own_wd hw 31 rfl) (by decide) (rm6 l Z az hw [] b1 (own_cn p2) nm k1 b2_r b4_r b6_r b8_r b2_t b4_t b6_t b8_t (own_by (own_ch (own_c0 p0))) (own_by (own_ch (own_c1 p0))) (own_by (own_ch (own_c2 p0))) (own_by (own_ch (own_c3 p0))) tn (own_by (own_ch kx)) w_COMPACT_STRINGS h9 n0 (Nat.le_trans Z0 KC9.1) V9 Z10_5 Z10_6 Z10_7 Z10_8 Z10_9 Z10_10 Z10_11 Z10_12 Z10_13 Z10_14 Z10_15 Z10_16 Z10_17 Z10_18 Z10_19 Z10_20 E_nm Fv_nm Fc_nm O_tn hC (own_cnt _) Z10_4) (W := 0) (by decide) (by decide) (g := (mkF m 292 #[.val (.int p0), .val (.int p1), .val (.int p2), .val (.int (own_c0 p0)), .val (.int (own_c1 p0)), .val (.int (own_c2 p0)), .val (.int (own_c3 p0)), .val (.ref b1), .val (.int (own_cn p2)), .val (.int (((p2.toUInt32 >>> ((3 : Int32) &&& 31).toUInt32).toInt32) &&& (3 : Int32))), .val (.ref nm), .val (.int kx), .val (.int (1 : Int32)), .val (.int (-1 : Int32))] [(.ref nm), (.int (own_cn p2)), (.ref b1)])) rfl (by rw [hml]; rfl) (argsL := [(.ref b1), (.int (own_cn p2)), (.ref nm)]) (rest := []) (lenOf pd_0_1 rfl) rfl (by show 2 * 0 + _ ≤ _; exact Nat.le_of_eq rfl) (hb hby at_292) rfl e9 (by decide) (by decide) ?_
                  rintro _ T70 L70 X70 ⟨rfl, Nq70, e70⟩
                  have N70 := Fr.app N9 Nq70
                  show OGo _ _ _ _ _ _ _ (T70.setTop (mkF m 295 #[.val (.int p0), .val (.int p1), .val (.int p2), .val (.int (own_c0 p0)), .val (.int (own_c1 p0)), .val (.int (own_c2 p0)), .val (.int (own_c3 p0)), .val (.ref b1), .val (.int (own_cn p2)), .val (.int (((p2.toUInt32 >>> ((3 : Int32) &&& 31).toUInt32).toInt32) &&& (3 : Int32))), .val (.ref nm), .val (.int kx), .val (.int (1 : Int32)), .val (.int (-1 : Int32))] [(.int (f6 (own_cn p2) nm b2_r b4_r b6_r b8_r (own_by (own_ch (own_c0 p0))) (own_by (own_ch (own_c1 p0))) (own_by (own_ch (own_c2 p0))) (own_by (own_ch (own_c3 p0))) (own_by (own_ch kx))))]))
                  refine OGo.step (F' := T70.setTop (mkF m 305 #[.val (.int p0), .val (.int p1), .val (.int p2), .val (.int (own_c0 p0)), .val (.int (own_c1 p0)), .val (.int (own_c2 p0)), .val (.int (own_c3 p0)), .val (.ref b1), .val (.int (own_cn p2)), .val (.int (((p2.toUInt32 >>> ((3 : Int32) &&& 31).toUInt32).toInt32) &&& (3 : Int32))), .val (.ref nm), .val (.int kx), .val (.int (1 : Int32)), .val (.int (-1 : Int32))] [(.int (1 : Int32))])) (fun t kt => ?_) ?_
                  · show Steps p.tables e below (T70.setTop (mkF m 295 #[.val (.int p0), .val (.int p1), .val (.int p2), .val (.int (own_c0 p0)), .val (.int (own_c1 p0)), .val (.int (own_c2 p0)), .val (.int (own_c3 p0)), .val (.ref b1), .val (.int (own_cn p2)), .val (.int (((p2.toUInt32 >>> ((3 : Int32) &&& 31).toUInt32).toInt32) &&& (3 : Int32))), .val (.ref nm), .val (.int kx), .val (.int (1 : Int32)), .val (.int (-1 : Int32))] [(.int (f6 (own_cn p2) nm b2_r b4_r b6_r b8_r (own_by (own_ch (own_c0 p0))) (own_by (own_ch (own_c1 p0))) (own_by (own_ch (own_c2 p0))) (own_by (own_ch (own_c3 p0))) (own_by (own_ch kx))))])) t
                    refine XS.iload X70.here hx rfl (hb hby at_295) rfl ?_
                    refine XS.icmpNo X70.here hx rfl (hb hby at_297) rfl (teq (by rw [own_fin _ (own_c0 p0) (own_c1 p0) (own_c2 p0) (own_c3 p0) kx _ _ _ _ _ _ _ _ _ _ (own_e _ _ _ _ (own_r0 _) hkx hal0) (own_e _ _ _ _ (own_r1 _) hkx hal1) (own_e _ _ _ _ (own_r2 _) hkx hal2) (own_e _ _ _ _ (own_r3 _) hkx hal3) (own_cnt _), own_exp, if_neg (fun q => hc217 q.1), if_neg (fun q => hc235 q.1), if_neg (fun q => hc261 q.2), if_neg (fun q => hc273 q.1)])).2 ?_
                    refine XS.iconst X70.here hx rfl (hb hby at_300) ?_
                    refine XS.goto X70.here hx rfl (pc0 := 301) (pc' := 305) rfl (hb hby at_301) (by decide) (by decide) ?_
                    exact kt
                  refine OGo.retZ X70 hx hlk (t := .boolean) (z' := (1 : Int32)) hret (by simp) (hb hby at_305) rfl ?_ (by decide) (by decide)
                  show Q0 Z p0 p1 p2 w_high w_cache w_COMPACT_STRINGS h0 n0 _ T70.heap _
                  rw [e70]
                  exact ⟨rfl, N70, KC9⟩
            · refine OGo.step (F' := T9.setTop (mkF m 270 #[.val (.int p0), .val (.int p1), .val (.int p2), .val (.int (own_c0 p0)), .val (.int (own_c1 p0)), .val (.int (own_c2 p0)), .val (.int (own_c3 p0)), .val (.ref b1), .val (.int (own_cn p2)), .val (.int (((p2.toUInt32 >>> ((3 : Int32) &&& 31).toUInt32).toInt32) &&& (3 : Int32))), .val (.ref nm), .val (.int kx), .val (.int (1 : Int32)), .val (.int (-1 : Int32))] [])) (fun t kt => ?_) ?_
              · show Steps p.tables e below (T9.setTop (mkF m 254 #[.val (.int p0), .val (.int p1), .val (.int p2), .val (.int (own_c0 p0)), .val (.int (own_c1 p0)), .val (.int (own_c2 p0)), .val (.int (own_c3 p0)), .val (.ref b1), .val (.int (own_cn p2)), .val (.int (((p2.toUInt32 >>> ((3 : Int32) &&& 31).toUInt32).toInt32) &&& (3 : Int32))), .val (.ref nm), .val (.int kx), .val (.int (1 : Int32)), .val (.int (-1 : Int32))] [(.int (2 : Int32)), (.int (own_cn p2))])) t
                refine XS.icmpYes X9.here hx rfl (pc0 := 254) (pc' := 270) rfl (hb hby at_254) rfl (flt hc254).2.2.2 (by decide) (by decide) ?_
                exact kt
              refine OGo.step (F' := T9.setTop (mkF m 273 #[.val (.int p0), .val (.int p1), .val (.int p2), .val (.int (own_c0 p0)), .val (.int (own_c1 p0)), .val (.int (own_c2 p0)), .val (.int (own_c3 p0)), .val (.ref b1), .val (.int (own_cn p2)), .val (.int (((p2.toUInt32 >>> ((3 : Int32) &&& 31).toUInt32).toInt32) &&& (3 : Int32))), .val (.ref nm), .val (.int kx), .val (.int (1 : Int32)), .val (.int (-1 : Int32))] [(.int (3 : Int32)), (.int (own_cn p2))])) (fun t kt => ?_) ?_
              · show Steps p.tables e below (T9.setTop (mkF m 270 #[.val (.int p0), .val (.int p1), .val (.int p2), .val (.int (own_c0 p0)), .val (.int (own_c1 p0)), .val (.int (own_c2 p0)), .val (.int (own_c3 p0)), .val (.ref b1), .val (.int (own_cn p2)), .val (.int (((p2.toUInt32 >>> ((3 : Int32) &&& 31).toUInt32).toInt32) &&& (3 : Int32))), .val (.ref nm), .val (.int kx), .val (.int (1 : Int32)), .val (.int (-1 : Int32))] [])) t
                refine XS.iload X9.here hx rfl (hb hby at_270) rfl ?_
                refine XS.iconst X9.here hx rfl (hb hby at_272) ?_
                exact kt
              by_cases hc273 : (3 : Int32) < (own_cn p2)
              · refine OGo.step (F' := T9.setTop (mkF m 276 #[.val (.int p0), .val (.int p1), .val (.int p2), .val (.int (own_c0 p0)), .val (.int (own_c1 p0)), .val (.int (own_c2 p0)), .val (.int (own_c3 p0)), .val (.ref b1), .val (.int (own_cn p2)), .val (.int (((p2.toUInt32 >>> ((3 : Int32) &&& 31).toUInt32).toInt32) &&& (3 : Int32))), .val (.ref nm), .val (.int kx), .val (.int (1 : Int32)), .val (.int (-1 : Int32))] [])) (fun t kt => ?_) ?_
                · show Steps p.tables e below (T9.setTop (mkF m 273 #[.val (.int p0), .val (.int p1), .val (.int p2), .val (.int (own_c0 p0)), .val (.int (own_c1 p0)), .val (.int (own_c2 p0)), .val (.int (own_c3 p0)), .val (.ref b1), .val (.int (own_cn p2)), .val (.int (((p2.toUInt32 >>> ((3 : Int32) &&& 31).toUInt32).toInt32) &&& (3 : Int32))), .val (.ref nm), .val (.int kx), .val (.int (1 : Int32)), .val (.int (-1 : Int32))] [(.int (3 : Int32)), (.int (own_cn p2))])) t
                  refine XS.icmpNo X9.here hx rfl (hb hby at_273) rfl (tlt hc273).2.2.2 ?_
                  exact kt
                refine OGo.step (F' := T9.setTop (mkF m 280 #[.val (.int p0), .val (.int p1), .val (.int p2), .val (.int (own_c0 p0)), .val (.int (own_c1 p0)), .val (.int (own_c2 p0)), .val (.int (own_c3 p0)), .val (.ref b1), .val (.int (own_cn p2)), .val (.int (((p2.toUInt32 >>> ((3 : Int32) &&& 31).toUInt32).toInt32) &&& (3 : Int32))), .val (.ref nm), .val (.int kx), .val (.int (1 : Int32)), .val (.int (-1 : Int32))] [(.int kx), (.int (own_c3 p0))])) (fun t kt => ?_) ?_
                · show Steps p.tables e below (T9.setTop (mkF m 276 #[.val (.int p0), .val (.int p1), .val (.int p2), .val (.int (own_c0 p0)), .val (.int (own_c1 p0)), .val (.int (own_c2 p0)), .val (.int (own_c3 p0)), .val (.ref b1), .val (.int (own_cn p2)), .val (.int (((p2.toUInt32 >>> ((3 : Int32) &&& 31).toUInt32).toInt32) &&& (3 : Int32))), .val (.ref nm), .val (.int kx), .val (.int (1 : Int32)), .val (.int (-1 : Int32))] [])) t
                  refine XS.iload X9.here hx rfl (hb hby at_276) rfl ?_
                  refine XS.iload X9.here hx rfl (hb hby at_278) rfl ?_
                  exact kt
                by_cases hc280 : (own_c3 p0) = kx
                · refine OGo.step (F' := T9.setTop (mkF m 283 #[.val (.int p0), .val (.int p1), .val (.int p2), .val (.int (own_c0 p0)), .val (.int (own_c1 p0)), .val (.int (own_c2 p0)), .val (.int (own_c3 p0)), .val (.ref b1), .val (.int (own_cn p2)), .val (.int (((p2.toUInt32 >>> ((3 : Int32) &&& 31).toUInt32).toInt32) &&& (3 : Int32))), .val (.ref nm), .val (.int kx), .val (.int (1 : Int32)), .val (.int (-1 : Int32))] [])) (fun t kt => ?_) ?_
                  · show Steps p.tables e below (T9.setTop (mkF m 280 #[.val (.int p0), .val (.int p1), .val (.int p2), .val (.int (own_c0 p0)), .val (.int (own_c1 p0)), .val (.int (own_c2 p0)), .val (.int (own_c3 p0)), .val (.ref b1), .val (.int (own_cn p2)), .val (.int (((p2.toUInt32 >>> ((3 : Int32) &&& 31).toUInt32).toInt32) &&& (3 : Int32))), .val (.ref nm), .val (.int kx), .val (.int (1 : Int32)), .val (.int (-1 : Int32))] [(.int kx), (.int (own_c3 p0))])) t
                    refine XS.icmpNo X9.here hx rfl (hb hby at_280) rfl (teq hc280).2 ?_
                    exact kt
                  refine OGo.step (F' := T9.setTop (mkF m 292 #[.val (.int p0), .val (.int p1), .val (.int p2), .val (.int (own_c0 p0)), .val (.int (own_c1 p0)), .val (.int (own_c2 p0)), .val (.int (own_c3 p0)), .val (.ref b1), .val (.int (own_cn p2)), .val (.int (((p2.toUInt32 >>> ((3 : Int32) &&& 31).toUInt32).toInt32) &&& (3 : Int32))), .val (.ref nm), .val (.int kx), .val (.int (1 : Int32)), .val (.int (3 : Int32))] [(.ref nm), (.int (own_cn p2)), (.ref b1)])) (fun t kt => ?_) ?_
                  · show Steps p.tables e below (T9.setTop (mkF m 283 #[.val (.int p0), .val (.int p1), .val (.int p2), .val (.int (own_c0 p0)), .val (.int (own_c1 p0)), .val (.int (own_c2 p0)), .val (.int (own_c3 p0)), .val (.ref b1), .val (.int (own_cn p2)), .val (.int (((p2.toUInt32 >>> ((3 : Int32) &&& 31).toUInt32).toInt32) &&& (3 : Int32))), .val (.ref nm), .val (.int kx), .val (.int (1 : Int32)), .val (.int (-1 : Int32))] [])) t
                    refine XS.iconst X9.here hx rfl (hb hby at_283) ?_
                    refine XS.istore X9.here hx rfl (hb hby at_284) rfl (l' := #[.val (.int p0), .val (.int p1), .val (.int p2), .val (.int (own_c0 p0)), .val (.int (own_c1 p0)), .val (.int (own_c2 p0)), .val (.int (own_c3 p0)), .val (.ref b1), .val (.int (own_cn p2)), .val (.int (((p2.toUInt32 >>> ((3 : Int32) &&& 31).toUInt32).toInt32) &&& (3 : Int32))), .val (.ref nm), .val (.int kx), .val (.int (1 : Int32)), .val (.int (3 : Int32))]) rfl ?_
                    refine XS.aload X9.here hx rfl (hb hby at_286) rfl rfl ?_
                    refine XS.iload X9.here hx rfl (hb hby at_288) rfl ?_
                    refine XS.aload X9.here hx rfl (hb hby at_290) rfl rfl ?_
                    exact kt
                  refine OGo.callS X9 hx hZ (y := (⟨"com/example/kette/kette/JsonObject", "walk", "([Ljava/lang/String;ILjava/lang/Object;)I"⟩ : MethodName)) hown (own_wd hw 28 rfl) (own_wd hw 29 rfl) (own_wd hw 30 rfl) (own_wd hw 31 rfl) (by decide) (rm6 l Z az hw [] b1 (own_cn p2) nm k1 b2_r b4_r b6_r b8_r b2_t b4_t b6_t b8_t (own_by (own_ch (own_c0 p0))) (own_by (own_ch (own_c1 p0))) (own_by (own_ch (own_c2 p0))) (own_by (own_ch (own_c3 p0))) tn (own_by (own_ch kx)) w_COMPACT_STRINGS h9 n0 (Nat.le_trans Z0 KC9.1) V9 Z10_5 Z10_6 Z10_7 Z10_8 Z10_9 Z10_10 Z10_11 Z10_12 Z10_13 Z10_14 Z10_15 Z10_16 Z10_17 Z10_18 Z10_19 Z10_20 E_nm Fv_nm Fc_nm O_tn hC (own_cnt _) Z10_4) (W := 0) (by decide) (by decide) (g := (mkF m 292 #[.val (.int p0), .val (.int p1), .val (.int p2), .val (.int (own_c0 p0)), .val (.int (own_c1 p0)), .val (.int (own_c2 p0)), .val (.int (own_c3 p0)), .val (.ref b1), .val (.int (own_cn p2)), .val (.int (((p2.toUInt32 >>> ((3 : Int32) &&& 31).toUInt32).toInt32) &&& (3 : Int32))), .val (.ref nm), .val (.int kx), .val (.int (1 : Int32)), .val (.int (3 : Int32))] [(.ref nm), (.int (own_cn p2)), (.ref b1)])) rfl (by rw [hml]; rfl) (argsL := [(.ref b1), (.int (own_cn p2)), (.ref nm)]) (rest := []) (lenOf pd_0_1 rfl) rfl (by show 2 * 0 + _ ≤ _; exact Nat.le_of_eq rfl) (hb hby at_292) rfl e9 (by decide) (by decide) ?_
                  rintro _ T71 L71 X71 ⟨rfl, Nq71, e71⟩
                  have N71 := Fr.app N9 Nq71
                  show OGo _ _ _ _ _ _ _ (T71.setTop (mkF m 295 #[.val (.int p0), .val (.int p1), .val (.int p2), .val (.int (own_c0 p0)), .val (.int (own_c1 p0)), .val (.int (own_c2 p0)), .val (.int (own_c3 p0)), .val (.ref b1), .val (.int (own_cn p2)), .val (.int (((p2.toUInt32 >>> ((3 : Int32) &&& 31).toUInt32).toInt32) &&& (3 : Int32))), .val (.ref nm), .val (.int kx), .val (.int (1 : Int32)), .val (.int (3 : Int32))] [(.int (f6 (own_cn p2) nm b2_r b4_r b6_r b8_r (own_by (own_ch (own_c0 p0))) (own_by (own_ch (own_c1 p0))) (own_by (own_ch (own_c2 p0))) (own_by (own_ch (own_c3 p0))) (own_by (own_ch kx))))]))
                  refine OGo.step (F' := T71.setTop (mkF m 305 #[.val (.int p0), .val (.int p1), .val (.int p2), .val (.int (own_c0 p0)), .val (.int (own_c1 p0)), .val (.int (own_c2 p0)), .val (.int (own_c3 p0)), .val (.ref b1), .val (.int (own_cn p2)), .val (.int (((p2.toUInt32 >>> ((3 : Int32) &&& 31).toUInt32).toInt32) &&& (3 : Int32))), .val (.ref nm), .val (.int kx), .val (.int (1 : Int32)), .val (.int (3 : Int32))] [(.int (1 : Int32))])) (fun t kt => ?_) ?_
                  · show Steps p.tables e below (T71.setTop (mkF m 295 #[.val (.int p0), .val (.int p1), .val (.int p2), .val (.int (own_c0 p0)), .val (.int (own_c1 p0)), .val (.int (own_c2 p0)), .val (.int (own_c3 p0)), .val (.ref b1), .val (.int (own_cn p2)), .val (.int (((p2.toUInt32 >>> ((3 : Int32) &&& 31).toUInt32).toInt32) &&& (3 : Int32))), .val (.ref nm), .val (.int kx), .val (.int (1 : Int32)), .val (.int (3 : Int32))] [(.int (f6 (own_cn p2) nm b2_r b4_r b6_r b8_r (own_by (own_ch (own_c0 p0))) (own_by (own_ch (own_c1 p0))) (own_by (own_ch (own_c2 p0))) (own_by (own_ch (own_c3 p0))) (own_by (own_ch kx))))])) t
                    refine XS.iload X71.here hx rfl (hb hby at_295) rfl ?_
                    refine XS.icmpNo X71.here hx rfl (hb hby at_297) rfl (teq (by rw [own_fin _ (own_c0 p0) (own_c1 p0) (own_c2 p0) (own_c3 p0) kx _ _ _ _ _ _ _ _ _ _ (own_e _ _ _ _ (own_r0 _) hkx hal0) (own_e _ _ _ _ (own_r1 _) hkx hal1) (own_e _ _ _ _ (own_r2 _) hkx hal2) (own_e _ _ _ _ (own_r3 _) hkx hal3) (own_cnt _), own_exp, if_neg (fun q => hc217 q.1), if_neg (fun q => hc235 q.1), if_neg (fun q => hc254 q.1), if_pos ⟨hc273, hc280⟩])).2 ?_
                    refine XS.iconst X71.here hx rfl (hb hby at_300) ?_
                    refine XS.goto X71.here hx rfl (pc0 := 301) (pc' := 305) rfl (hb hby at_301) (by decide) (by decide) ?_
                    exact kt
                  refine OGo.retZ X71 hx hlk (t := .boolean) (z' := (1 : Int32)) hret (by simp) (hb hby at_305) rfl ?_ (by decide) (by decide)
                  show Q0 Z p0 p1 p2 w_high w_cache w_COMPACT_STRINGS h0 n0 _ T71.heap _
                  rw [e71]
                  exact ⟨rfl, N71, KC9⟩
                · refine OGo.step (F' := T9.setTop (mkF m 286 #[.val (.int p0), .val (.int p1), .val (.int p2), .val (.int (own_c0 p0)), .val (.int (own_c1 p0)), .val (.int (own_c2 p0)), .val (.int (own_c3 p0)), .val (.ref b1), .val (.int (own_cn p2)), .val (.int (((p2.toUInt32 >>> ((3 : Int32) &&& 31).toUInt32).toInt32) &&& (3 : Int32))), .val (.ref nm), .val (.int kx), .val (.int (1 : Int32)), .val (.int (-1 : Int32))] [])) (fun t kt => ?_) ?_
                  · show Steps p.tables e below (T9.setTop (mkF m 280 #[.val (.int p0), .val (.int p1), .val (.int p2), .val (.int (own_c0 p0)), .val (.int (own_c1 p0)), .val (.int (own_c2 p0)), .val (.int (own_c3 p0)), .val (.ref b1), .val (.int (own_cn p2)), .val (.int (((p2.toUInt32 >>> ((3 : Int32) &&& 31).toUInt32).toInt32) &&& (3 : Int32))), .val (.ref nm), .val (.int kx), .val (.int (1 : Int32)), .val (.int (-1 : Int32))] [(.int kx), (.int (own_c3 p0))])) t
                    refine XS.icmpYes X9.here hx rfl (pc0 := 280) (pc' := 286) rfl (hb hby at_280) rfl (feq hc280).2 (by decide) (by decide) ?_
                    exact kt
                  refine OGo.step (F' := T9.setTop (mkF m 292 #[.val (.int p0), .val (.int p1), .val (.int p2), .val (.int (own_c0 p0)), .val (.int (own_c1 p0)), .val (.int (own_c2 p0)), .val (.int (own_c3 p0)), .val (.ref b1), .val (.int (own_cn p2)), .val (.int (((p2.toUInt32 >>> ((3 : Int32) &&& 31).toUInt32).toInt32) &&& (3 : Int32))), .val (.ref nm), .val (.int kx), .val (.int (1 : Int32)), .val (.int (-1 : Int32))] [(.ref nm), (.int (own_cn p2)), (.ref b1)])) (fun t kt => ?_) ?_
                  · show Steps p.tables e below (T9.setTop (mkF m 286 #[.val (.int p0), .val (.int p1), .val (.int p2), .val (.int (own_c0 p0)), .val (.int (own_c1 p0)), .val (.int (own_c2 p0)), .val (.int (own_c3 p0)), .val (.ref b1), .val (.int (own_cn p2)), .val (.int (((p2.toUInt32 >>> ((3 : Int32) &&& 31).toUInt32).toInt32) &&& (3 : Int32))), .val (.ref nm), .val (.int kx), .val (.int (1 : Int32)), .val (.int (-1 : Int32))] [])) t
                    refine XS.aload X9.here hx rfl (hb hby at_286) rfl rfl ?_
                    refine XS.iload X9.here hx rfl (hb hby at_288) rfl ?_
                    refine XS.aload X9.here hx rfl (hb hby at_290) rfl rfl ?_
                    exact kt
                  refine OGo.callS X9 hx hZ (y := (⟨"com/example/kette/kette/JsonObject", "walk", "([Ljava/lang/String;ILjava/lang/Object;)I"⟩ : MethodName)) hown (own_wd hw 28 rfl) (own_wd hw 29 rfl) (own_wd hw 30 rfl) (own_wd hw 31 rfl) (by decide) (rm6 l Z az hw [] b1 (own_cn p2) nm k1 b2_r b4_r b6_r b8_r b2_t b4_t b6_t b8_t (own_by (own_ch (own_c0 p0))) (own_by (own_ch (own_c1 p0))) (own_by (own_ch (own_c2 p0))) (own_by (own_ch (own_c3 p0))) tn (own_by (own_ch kx)) w_COMPACT_STRINGS h9 n0 (Nat.le_trans Z0 KC9.1) V9 Z10_5 Z10_6 Z10_7 Z10_8 Z10_9 Z10_10 Z10_11 Z10_12 Z10_13 Z10_14 Z10_15 Z10_16 Z10_17 Z10_18 Z10_19 Z10_20 E_nm Fv_nm Fc_nm O_tn hC (own_cnt _) Z10_4) (W := 0) (by decide) (by decide) (g := (mkF m 292 #[.val (.int p0), .val (.int p1), .val (.int p2), .val (.int (own_c0 p0)), .val (.int (own_c1 p0)), .val (.int (own_c2 p0)), .val (.int (own_c3 p0)), .val (.ref b1), .val (.int (own_cn p2)), .val (.int (((p2.toUInt32 >>> ((3 : Int32) &&& 31).toUInt32).toInt32) &&& (3 : Int32))), .val (.ref nm), .val (.int kx), .val (.int (1 : Int32)), .val (.int (-1 : Int32))] [(.ref nm), (.int (own_cn p2)), (.ref b1)])) rfl (by rw [hml]; rfl) (argsL := [(.ref b1), (.int (own_cn p2)), (.ref nm)]) (rest := []) (lenOf pd_0_1 rfl) rfl (by show 2 * 0 + _ ≤ _; exact Nat.le_of_eq rfl) (hb hby at_292) rfl e9 (by decide) (by decide) ?_
                  rintro _ T72 L72 X72 ⟨rfl, Nq72, e72⟩
                  have N72 := Fr.app N9 Nq72
                  show OGo _ _ _ _ _ _ _ (T72.setTop (mkF m 295 #[.val (.int p0), .val (.int p1), .val (.int p2), .val (.int (own_c0 p0)), .val (.int (own_c1 p0)), .val (.int (own_c2 p0)), .val (.int (own_c3 p0)), .val (.ref b1), .val (.int (own_cn p2)), .val (.int (((p2.toUInt32 >>> ((3 : Int32) &&& 31).toUInt32).toInt32) &&& (3 : Int32))), .val (.ref nm), .val (.int kx), .val (.int (1 : Int32)), .val (.int (-1 : Int32))] [(.int (f6 (own_cn p2) nm b2_r b4_r b6_r b8_r (own_by (own_ch (own_c0 p0))) (own_by (own_ch (own_c1 p0))) (own_by (own_ch (own_c2 p0))) (own_by (own_ch (own_c3 p0))) (own_by (own_ch kx))))]))
                  refine OGo.step (F' := T72.setTop (mkF m 305 #[.val (.int p0), .val (.int p1), .val (.int p2), .val (.int (own_c0 p0)), .val (.int (own_c1 p0)), .val (.int (own_c2 p0)), .val (.int (own_c3 p0)), .val (.ref b1), .val (.int (own_cn p2)), .val (.int (((p2.toUInt32 >>> ((3 : Int32) &&& 31).toUInt32).toInt32) &&& (3 : Int32))), .val (.ref nm), .val (.int kx), .val (.int (1 : Int32)), .val (.int (-1 : Int32))] [(.int (1 : Int32))])) (fun t kt => ?_) ?_
                  · show Steps p.tables e below (T72.setTop (mkF m 295 #[.val (.int p0), .val (.int p1), .val (.int p2), .val (.int (own_c0 p0)), .val (.int (own_c1 p0)), .val (.int (own_c2 p0)), .val (.int (own_c3 p0)), .val (.ref b1), .val (.int (own_cn p2)), .val (.int (((p2.toUInt32 >>> ((3 : Int32) &&& 31).toUInt32).toInt32) &&& (3 : Int32))), .val (.ref nm), .val (.int kx), .val (.int (1 : Int32)), .val (.int (-1 : Int32))] [(.int (f6 (own_cn p2) nm b2_r b4_r b6_r b8_r (own_by (own_ch (own_c0 p0))) (own_by (own_ch (own_c1 p0))) (own_by (own_ch (own_c2 p0))) (own_by (own_ch (own_c3 p0))) (own_by (own_ch kx))))])) t
                    refine XS.iload X72.here hx rfl (hb hby at_295) rfl ?_
                    refine XS.icmpNo X72.here hx rfl (hb hby at_297) rfl (teq (by rw [own_fin _ (own_c0 p0) (own_c1 p0) (own_c2 p0) (own_c3 p0) kx _ _ _ _ _ _ _ _ _ _ (own_e _ _ _ _ (own_r0 _) hkx hal0) (own_e _ _ _ _ (own_r1 _) hkx hal1) (own_e _ _ _ _ (own_r2 _) hkx hal2) (own_e _ _ _ _ (own_r3 _) hkx hal3) (own_cnt _), own_exp, if_neg (fun q => hc217 q.1), if_neg (fun q => hc235 q.1), if_neg (fun q => hc254 q.1), if_neg (fun q => hc280 q.2)])).2 ?_
                    refine XS.iconst X72.here hx rfl (hb hby at_300) ?_
                    refine XS.goto X72.here hx rfl (pc0 := 301) (pc' := 305) rfl (hb hby at_301) (by decide) (by decide) ?_
                    exact kt
                  refine OGo.retZ X72 hx hlk (t := .boolean) (z' := (1 : Int32)) hret (by simp) (hb hby at_305) rfl ?_ (by decide) (by decide)
                  show Q0 Z p0 p1 p2 w_high w_cache w_COMPACT_STRINGS h0 n0 _ T72.heap _
                  rw [e72]
                  exact ⟨rfl, N72, KC9⟩
              · refine OGo.step (F' := T9.setTop (mkF m 286 #[.val (.int p0), .val (.int p1), .val (.int p2), .val (.int (own_c0 p0)), .val (.int (own_c1 p0)), .val (.int (own_c2 p0)), .val (.int (own_c3 p0)), .val (.ref b1), .val (.int (own_cn p2)), .val (.int (((p2.toUInt32 >>> ((3 : Int32) &&& 31).toUInt32).toInt32) &&& (3 : Int32))), .val (.ref nm), .val (.int kx), .val (.int (1 : Int32)), .val (.int (-1 : Int32))] [])) (fun t kt => ?_) ?_
                · show Steps p.tables e below (T9.setTop (mkF m 273 #[.val (.int p0), .val (.int p1), .val (.int p2), .val (.int (own_c0 p0)), .val (.int (own_c1 p0)), .val (.int (own_c2 p0)), .val (.int (own_c3 p0)), .val (.ref b1), .val (.int (own_cn p2)), .val (.int (((p2.toUInt32 >>> ((3 : Int32) &&& 31).toUInt32).toInt32) &&& (3 : Int32))), .val (.ref nm), .val (.int kx), .val (.int (1 : Int32)), .val (.int (-1 : Int32))] [(.int (3 : Int32)), (.int (own_cn p2))])) t
                  refine XS.icmpYes X9.here hx rfl (pc0 := 273) (pc' := 286) rfl (hb hby at_273) rfl (flt hc273).2.2.2 (by decide) (by decide) ?_
                  exact kt
                refine OGo.step (F' := T9.setTop (mkF m 292 #[.val (.int p0), .val (.int p1), .val (.int p2), .val (.int (own_c0 p0)), .val (.int (own_c1 p0)), .val (.int (own_c2 p0)), .val (.int (own_c3 p0)), .val (.ref b1), .val (.int (own_cn p2)), .val (.int (((p2.toUInt32 >>> ((3 : Int32) &&& 31).toUInt32).toInt32) &&& (3 : Int32))), .val (.ref nm), .val (.int kx), .val (.int (1 : Int32)), .val (.int (-1 : Int32))] [(.ref nm), (.int (own_cn p2)), (.ref b1)])) (fun t kt => ?_) ?_
                · show Steps p.tables e below (T9.setTop (mkF m 286 #[.val (.int p0), .val (.int p1), .val (.int p2), .val (.int (own_c0 p0)), .val (.int (own_c1 p0)), .val (.int (own_c2 p0)), .val (.int (own_c3 p0)), .val (.ref b1), .val (.int (own_cn p2)), .val (.int (((p2.toUInt32 >>> ((3 : Int32) &&& 31).toUInt32).toInt32) &&& (3 : Int32))), .val (.ref nm), .val (.int kx), .val (.int (1 : Int32)), .val (.int (-1 : Int32))] [])) t
                  refine XS.aload X9.here hx rfl (hb hby at_286) rfl rfl ?_
                  refine XS.iload X9.here hx rfl (hb hby at_288) rfl ?_
                  refine XS.aload X9.here hx rfl (hb hby at_290) rfl rfl ?_
                  exact kt
                refine OGo.callS X9 hx hZ (y := (⟨"com/example/kette/kette/JsonObject", "walk", "([Ljava/lang/String;ILjava/lang/Object;)I"⟩ : MethodName)) hown (own_wd hw 28 rfl) (own_wd hw 29 rfl) (own_wd hw 30 rfl) (own_wd hw 31 rfl) (by decide) (rm6 l Z az hw [] b1 (own_cn p2) nm k1 b2_r b4_r b6_r b8_r b2_t b4_t b6_t b8_t (own_by (own_ch (own_c0 p0))) (own_by (own_ch (own_c1 p0))) (own_by (own_ch (own_c2 p0))) (own_by (own_ch (own_c3 p0))) tn (own_by (own_ch kx)) w_COMPACT_STRINGS h9 n0 (Nat.le_trans Z0 KC9.1) V9 Z10_5 Z10_6 Z10_7 Z10_8 Z10_9 Z10_10 Z10_11 Z10_12 Z10_13 Z10_14 Z10_15 Z10_16 Z10_17 Z10_18 Z10_19 Z10_20 E_nm Fv_nm Fc_nm O_tn hC (own_cnt _) Z10_4) (W := 0) (by decide) (by decide) (g := (mkF m 292 #[.val (.int p0), .val (.int p1), .val (.int p2), .val (.int (own_c0 p0)), .val (.int (own_c1 p0)), .val (.int (own_c2 p0)), .val (.int (own_c3 p0)), .val (.ref b1), .val (.int (own_cn p2)), .val (.int (((p2.toUInt32 >>> ((3 : Int32) &&& 31).toUInt32).toInt32) &&& (3 : Int32))), .val (.ref nm), .val (.int kx), .val (.int (1 : Int32)), .val (.int (-1 : Int32))] [(.ref nm), (.int (own_cn p2)), (.ref b1)])) rfl (by rw [hml]; rfl) (argsL := [(.ref b1), (.int (own_cn p2)), (.ref nm)]) (rest := []) (lenOf pd_0_1 rfl) rfl (by show 2 * 0 + _ ≤ _; exact Nat.le_of_eq rfl) (hb hby at_292) rfl e9 (by decide) (by decide) ?_
                rintro _ T73 L73 X73 ⟨rfl, Nq73, e73⟩
                have N73 := Fr.app N9 Nq73
                show OGo _ _ _ _ _ _ _ (T73.setTop (mkF m 295 #[.val (.int p0), .val (.int p1), .val (.int p2), .val (.int (own_c0 p0)), .val (.int (own_c1 p0)), .val (.int (own_c2 p0)), .val (.int (own_c3 p0)), .val (.ref b1), .val (.int (own_cn p2)), .val (.int (((p2.toUInt32 >>> ((3 : Int32) &&& 31).toUInt32).toInt32) &&& (3 : Int32))), .val (.ref nm), .val (.int kx), .val (.int (1 : Int32)), .val (.int (-1 : Int32))] [(.int (f6 (own_cn p2) nm b2_r b4_r b6_r b8_r (own_by (own_ch (own_c0 p0))) (own_by (own_ch (own_c1 p0))) (own_by (own_ch (own_c2 p0))) (own_by (own_ch (own_c3 p0))) (own_by (own_ch kx))))]))
                refine OGo.step (F' := T73.setTop (mkF m 305 #[.val (.int p0), .val (.int p1), .val (.int p2), .val (.int (own_c0 p0)), .val (.int (own_c1 p0)), .val (.int (own_c2 p0)), .val (.int (own_c3 p0)), .val (.ref b1), .val (.int (own_cn p2)), .val (.int (((p2.toUInt32 >>> ((3 : Int32) &&& 31).toUInt32).toInt32) &&& (3 : Int32))), .val (.ref nm), .val (.int kx), .val (.int (1 : Int32)), .val (.int (-1 : Int32))] [(.int (1 : Int32))])) (fun t kt => ?_) ?_
                · show Steps p.tables e below (T73.setTop (mkF m 295 #[.val (.int p0), .val (.int p1), .val (.int p2), .val (.int (own_c0 p0)), .val (.int (own_c1 p0)), .val (.int (own_c2 p0)), .val (.int (own_c3 p0)), .val (.ref b1), .val (.int (own_cn p2)), .val (.int (((p2.toUInt32 >>> ((3 : Int32) &&& 31).toUInt32).toInt32) &&& (3 : Int32))), .val (.ref nm), .val (.int kx), .val (.int (1 : Int32)), .val (.int (-1 : Int32))] [(.int (f6 (own_cn p2) nm b2_r b4_r b6_r b8_r (own_by (own_ch (own_c0 p0))) (own_by (own_ch (own_c1 p0))) (own_by (own_ch (own_c2 p0))) (own_by (own_ch (own_c3 p0))) (own_by (own_ch kx))))])) t
                  refine XS.iload X73.here hx rfl (hb hby at_295) rfl ?_
                  refine XS.icmpNo X73.here hx rfl (hb hby at_297) rfl (teq (by rw [own_fin _ (own_c0 p0) (own_c1 p0) (own_c2 p0) (own_c3 p0) kx _ _ _ _ _ _ _ _ _ _ (own_e _ _ _ _ (own_r0 _) hkx hal0) (own_e _ _ _ _ (own_r1 _) hkx hal1) (own_e _ _ _ _ (own_r2 _) hkx hal2) (own_e _ _ _ _ (own_r3 _) hkx hal3) (own_cnt _), own_exp, if_neg (fun q => hc217 q.1), if_neg (fun q => hc235 q.1), if_neg (fun q => hc254 q.1), if_neg (fun q => hc273 q.1)])).2 ?_
                  refine XS.iconst X73.here hx rfl (hb hby at_300) ?_
                  refine XS.goto X73.here hx rfl (pc0 := 301) (pc' := 305) rfl (hb hby at_301) (by decide) (by decide) ?_
                  exact kt
                refine OGo.retZ X73 hx hlk (t := .boolean) (z' := (1 : Int32)) hret (by simp) (hb hby at_305) rfl ?_ (by decide) (by decide)
                show Q0 Z p0 p1 p2 w_high w_cache w_COMPACT_STRINGS h0 n0 _ T73.heap _
                rw [e73]
                exact ⟨rfl, N73, KC9⟩
      refine OGo.step (F' := T9.setTop (mkF m 131 #[.val (.int p0), .val (.int p1), .val (.int p2), .val (.int (own_c0 p0)), .val (.int (own_c1 p0)), .val (.int (own_c2 p0)), .val (.int (own_c3 p0)), .val (.ref b1), .val (.int (own_cn p2)), .val (.int (((p2.toUInt32 >>> ((3 : Int32) &&& 31).toUInt32).toInt32) &&& (3 : Int32))), .unset, .unset, .unset, .val (.int (p1 &&& (3 : Int32)))] [(.int (p1 &&& (3 : Int32)))])) (fun t kt => ?_) ?_
      · show Steps p.tables e below (T9.setTop (mkF m 124 #[.val (.int p0), .val (.int p1), .val (.int p2), .val (.int (own_c0 p0)), .val (.int (own_c1 p0)), .val (.int (own_c2 p0)), .val (.int (own_c3 p0)), .val (.ref b1), .val (.int (own_cn p2)), .val (.int (((p2.toUInt32 >>> ((3 : Int32) &&& 31).toUInt32).toInt32) &&& (3 : Int32))), .unset, .unset, .unset, .unset] [])) t
        refine XS.iloadN X9.here hx rfl (hb hby at_124) rfl ?_
        refine XS.iconst X9.here hx rfl (hb hby at_125) ?_
        refine XS.iand X9.here hx rfl (hb hby at_126) rfl ?_
        refine XS.istore X9.here hx rfl (hb hby at_127) rfl (l' := #[.val (.int p0), .val (.int p1), .val (.int p2), .val (.int (own_c0 p0)), .val (.int (own_c1 p0)), .val (.int (own_c2 p0)), .val (.int (own_c3 p0)), .val (.ref b1), .val (.int (own_cn p2)), .val (.int (((p2.toUInt32 >>> ((3 : Int32) &&& 31).toUInt32).toInt32) &&& (3 : Int32))), .unset, .unset, .unset, .val (.int (p1 &&& (3 : Int32)))]) rfl ?_
        refine XS.iload X9.here hx rfl (hb hby at_129) rfl ?_
        exact kt
      by_cases hc131 : (p1 &&& (3 : Int32)) = (0 : Int32)
      · refine OGo.step (F' := T9.setTop (mkF m 134 #[.val (.int p0), .val (.int p1), .val (.int p2), .val (.int (own_c0 p0)), .val (.int (own_c1 p0)), .val (.int (own_c2 p0)), .val (.int (own_c3 p0)), .val (.ref b1), .val (.int (own_cn p2)), .val (.int (((p2.toUInt32 >>> ((3 : Int32) &&& 31).toUInt32).toInt32) &&& (3 : Int32))), .unset, .unset, .unset, .val (.int (p1 &&& (3 : Int32)))] [])) (fun t kt => ?_) ?_
        · show Steps p.tables e below (T9.setTop (mkF m 131 #[.val (.int p0), .val (.int p1), .val (.int p2), .val (.int (own_c0 p0)), .val (.int (own_c1 p0)), .val (.int (own_c2 p0)), .val (.int (own_c3 p0)), .val (.ref b1), .val (.int (own_cn p2)), .val (.int (((p2.toUInt32 >>> ((3 : Int32) &&& 31).toUInt32).toInt32) &&& (3 : Int32))), .unset, .unset, .unset, .val (.int (p1 &&& (3 : Int32)))] [(.int (p1 &&& (3 : Int32)))])) t
          refine XS.ifNo X9.here hx rfl (hb hby at_131) rfl ((if0 _ _).trans (teq hc131).2) ?_
          exact kt
        refine OGo.step (F' := T9.setTop (mkF m 168 #[.val (.int p0), .val (.int p1), .val (.int p2), .val (.int (own_c0 p0)), .val (.int (own_c1 p0)), .val (.int (own_c2 p0)), .val (.int (own_c3 p0)), .val (.ref b1), .val (.int (own_cn p2)), .val (.int (((p2.toUInt32 >>> ((3 : Int32) &&& 31).toUInt32).toInt32) &&& (3 : Int32))), .unset, .val (.int (own_c0 p0)), .unset, .val (.int (p1 &&& (3 : Int32)))] [(.int (p1 &&& (3 : Int32))), (.ref b1)])) (fun t kt => ?_) ?_
        · show Steps p.tables e below (T9.setTop (mkF m 134 #[.val (.int p0), .val (.int p1), .val (.int p2), .val (.int (own_c0 p0)), .val (.int (own_c1 p0)), .val (.int (own_c2 p0)), .val (.int (own_c3 p0)), .val (.ref b1), .val (.int (own_cn p2)), .val (.int (((p2.toUInt32 >>> ((3 : Int32) &&& 31).toUInt32).toInt32) &&& (3 : Int32))), .unset, .unset, .unset, .val (.int (p1 &&& (3 : Int32)))] [])) t
          refine XS.iloadN X9.here hx rfl (hb hby at_134) rfl ?_
          refine XS.goto X9.here hx rfl (pc0 := 135) (pc' := 162) rfl (hb hby at_135) (by decide) (by decide) ?_
          refine XS.istore X9.here hx rfl (hb hby at_162) rfl (l' := #[.val (.int p0), .val (.int p1), .val (.int p2), .val (.int (own_c0 p0)), .val (.int (own_c1 p0)), .val (.int (own_c2 p0)), .val (.int (own_c3 p0)), .val (.ref b1), .val (.int (own_cn p2)), .val (.int (((p2.toUInt32 >>> ((3 : Int32) &&& 31).toUInt32).toInt32) &&& (3 : Int32))), .unset, .val (.int (own_c0 p0)), .unset, .val (.int (p1 &&& (3 : Int32)))]) rfl ?_
          refine XS.aload X9.here hx rfl (hb hby at_164) rfl rfl ?_
          refine XS.iload X9.here hx rfl (hb hby at_166) rfl ?_
          exact kt
        obtain ⟨cl74, Ar74, q74, S74, N74a, H74, G74⟩ := id (V9)
        have hin74 : ¬ ((p1 &&& (3 : Int32)) < 0 ∨ cl74.slots.size ≤ ((p1 &&& (3 : Int32))).toNatClampNeg) := inb_of S74 (own_atb _)
        have hat74 : cl74.slots[((p1 &&& (3 : Int32))).toNatClampNeg]? = some (.ref b2_r) := H74.at hin74 (by rw [hc131]; rfl)
        refine OGo.step (F' := T9.setTop (mkF m 169 #[.val (.int p0), .val (.int p1), .val (.int p2), .val (.int (own_c0 p0)), .val (.int (own_c1 p0)), .val (.int (own_c2 p0)), .val (.int (own_c3 p0)), .val (.ref b1), .val (.int (own_cn p2)), .val (.int (((p2.toUInt32 >>> ((3 : Int32) &&& 31).toUInt32).toInt32) &&& (3 : Int32))), .unset, .val (.int (own_c0 p0)), .unset, .val (.int (p1 &&& (3 : Int32)))] [(.ref b2_r)])) (fun t kt => ?_) ?_
        · show Steps p.tables e below (T9.setTop (mkF m 168 #[.val (.int p0), .val (.int p1), .val (.int p2), .val (.int (own_c0 p0)), .val (.int (own_c1 p0)), .val (.int (own_c2 p0)), .val (.int (own_c3 p0)), .val (.ref b1), .val (.int (own_cn p2)), .val (.int (((p2.toUInt32 >>> ((3 : Int32) &&& 31).toUInt32).toInt32) &&& (3 : Int32))), .unset, .val (.int (own_c0 p0)), .unset, .val (.int (p1 &&& (3 : Int32)))] [(.int (p1 &&& (3 : Int32))), (.ref b1)])) t
          refine X9.aaload hx (j := (p1 &&& (3 : Int32))) (v := (.ref b2_r)) (by rw [e9]; exact Ar74.1) (State.isArrayOf_alike hZ.alike Ar74.2.1) rfl Ar74.2.2 hin74 hat74 (g := (mkF m 168 #[.val (.int p0), .val (.int p1), .val (.int p2), .val (.int (own_c0 p0)), .val (.int (own_c1 p0)), .val (.int (own_c2 p0)), .val (.int (own_c3 p0)), .val (.ref b1), .val (.int (own_cn p2)), .val (.int (((p2.toUInt32 >>> ((3 : Int32) &&& 31).toUInt32).toInt32) &&& (3 : Int32))), .unset, .val (.int (own_c0 p0)), .unset, .val (.int (p1 &&& (3 : Int32)))] [(.int (p1 &&& (3 : Int32))), (.ref b1)])) rfl rfl (hb hby at_168) _ ?_
          exact kt
        refine OGo.step (F' := T9.setTop (mkF m 207 #[.val (.int p0), .val (.int p1), .val (.int p2), .val (.int (own_c0 p0)), .val (.int (own_c1 p0)), .val (.int (own_c2 p0)), .val (.int (own_c3 p0)), .val (.ref b1), .val (.int (own_cn p2)), .val (.int (((p2.toUInt32 >>> ((3 : Int32) &&& 31).toUInt32).toInt32) &&& (3 : Int32))), .val (.ref b2_r), .val (.int (own_c0 p0)), .val (.int (1 : Int32)), .val (.int (p1 &&& (3 : Int32)))] [])) (fun t kt => ?_) ?_
        · show Steps p.tables e below (T9.setTop (mkF m 169 #[.val (.int p0), .val (.int p1), .val (.int p2), .val (.int (own_c0 p0)), .val (.int (own_c1 p0)), .val (.int (own_c2 p0)), .val (.int (own_c3 p0)), .val (.ref b1), .val (.int (own_cn p2)), .val (.int (((p2.toUInt32 >>> ((3 : Int32) &&& 31).toUInt32).toInt32) &&& (3 : Int32))), .unset, .val (.int (own_c0 p0)), .unset, .val (.int (p1 &&& (3 : Int32)))] [(.ref b2_r)])) t
          refine XS.astore X9.here hx rfl (hb hby at_169) rfl rfl (l' := #[.val (.int p0), .val (.int p1), .val (.int p2), .val (.int (own_c0 p0)), .val (.int (own_c1 p0)), .val (.int (own_c2 p0)), .val (.int (own_c3 p0)), .val (.ref b1), .val (.int (own_cn p2)), .val (.int (((p2.toUInt32 >>> ((3 : Int32) &&& 31).toUInt32).toInt32) &&& (3 : Int32))), .val (.ref b2_r), .val (.int (own_c0 p0)), .unset, .val (.int (p1 &&& (3 : Int32)))]) rfl ?_
          refine XS.iconst X9.here hx rfl (hb hby at_171) ?_
          refine XS.istore X9.here hx rfl (hb hby at_172) rfl (l' := #[.val (.int p0), .val (.int p1), .val (.int p2), .val (.int (own_c0 p0)), .val (.int (own_c1 p0)), .val (.int (own_c2 p0)), .val (.int (own_c3 p0)), .val (.ref b1), .val (.int (own_cn p2)), .val (.int (((p2.toUInt32 >>> ((3 : Int32) &&& 31).toUInt32).toInt32) &&& (3 : Int32))), .val (.ref b2_r), .val (.int (own_c0 p0)), .val (.int (1 : Int32)), .val (.int (p1 &&& (3 : Int32)))]) rfl ?_
          refine XS.goto X9.here hx rfl (pc0 := 174) (pc' := 207) rfl (hb hby at_174) (by decide) (by decide) ?_
          exact kt
        exact J _ _ _ _ (One.val rfl) (own_r0 _) Z10_5 Z10_6 Z10_7 Z10_8 (fun _ => rfl) (fun q => absurd q (Ne.symm (Nat.ne_of_lt (Nat.lt_of_lt_of_le (P2_0.wr W3).lt szo_b4_r)))) (fun q => absurd q (Ne.symm (Nat.ne_of_lt (Nat.lt_of_lt_of_le (((P2_0.wr W3).keep K4).wr W5).lt szo_b6_r)))) (fun q => absurd q (Ne.symm (Nat.ne_of_lt (Nat.lt_of_lt_of_le (((((P2_0.wr W3).keep K4).wr W5).keep K6).wr W7).lt szo_b8_r))))
      · refine OGo.step (F' := T9.setTop (mkF m 138 #[.val (.int p0), .val (.int p1), .val (.int p2), .val (.int (own_c0 p0)), .val (.int (own_c1 p0)), .val (.int (own_c2 p0)), .val (.int (own_c3 p0)), .val (.ref b1), .val (.int (own_cn p2)), .val (.int (((p2.toUInt32 >>> ((3 : Int32) &&& 31).toUInt32).toInt32) &&& (3 : Int32))), .unset, .unset, .unset, .val (.int (p1 &&& (3 : Int32)))] [])) (fun t kt => ?_) ?_
        · show Steps p.tables e below (T9.setTop (mkF m 131 #[.val (.int p0), .val (.int p1), .val (.int p2), .val (.int (own_c0 p0)), .val (.int (own_c1 p0)), .val (.int (own_c2 p0)), .val (.int (own_c3 p0)), .val (.ref b1), .val (.int (own_cn p2)), .val (.int (((p2.toUInt32 >>> ((3 : Int32) &&& 31).toUInt32).toInt32) &&& (3 : Int32))), .unset, .unset, .unset, .val (.int (p1 &&& (3 : Int32)))] [(.int (p1 &&& (3 : Int32)))])) t
          refine XS.ifYes X9.here hx rfl (pc0 := 131) (pc' := 138) rfl (hb hby at_131) rfl ((if0 _ _).trans (feq hc131).2) (by decide) (by decide) ?_
          exact kt
        refine OGo.step (F' := T9.setTop (mkF m 141 #[.val (.int p0), .val (.int p1), .val (.int p2), .val (.int (own_c0 p0)), .val (.int (own_c1 p0)), .val (.int (own_c2 p0)), .val (.int (own_c3 p0)), .val (.ref b1), .val (.int (own_cn p2)), .val (.int (((p2.toUInt32 >>> ((3 : Int32) &&& 31).toUInt32).toInt32) &&& (3 : Int32))), .unset, .unset, .unset, .val (.int (p1 &&& (3 : Int32)))] [(.int (1 : Int32)), (.int (p1 &&& (3 : Int32)))])) (fun t kt => ?_) ?_
        · show Steps p.tables e below (T9.setTop (mkF m 138 #[.val (.int p0), .val (.int p1), .val (.int p2), .val (.int (own_c0 p0)), .val (.int (own_c1 p0)), .val (.int (own_c2 p0)), .val (.int (own_c3 p0)), .val (.ref b1), .val (.int (own_cn p2)), .val (.int (((p2.toUInt32 >>> ((3 : Int32) &&& 31).toUInt32).toInt32) &&& (3 : Int32))), .unset, .unset, .unset, .val (.int (p1 &&& (3 : Int32)))] [])) t
          refine XS.iload X9.here hx rfl (hb hby at_138) rfl ?_
          refine XS.iconst X9.here hx rfl (hb hby at_140) ?_
          exact kt
        by_cases hc141 : (p1 &&& (3 : Int32)) = (1 : Int32)
        · refine OGo.step (F' := T9.setTop (mkF m 144 #[.val (.int p0), .val (.int p1), .val (.int p2), .val (.int (own_c0 p0)), .val (.int (own_c1 p0)), .val (.int (own_c2 p0)), .val (.int (own_c3 p0)), .val (.ref b1), .val (.int (own_cn p2)), .val (.int (((p2.toUInt32 >>> ((3 : Int32) &&& 31).toUInt32).toInt32) &&& (3 : Int32))), .unset, .unset, .unset, .val (.int (p1 &&& (3 : Int32)))] [])) (fun t kt => ?_) ?_
          · show Steps p.tables e below (T9.setTop (mkF m 141 #[.val (.int p0), .val (.int p1), .val (.int p2), .val (.int (own_c0 p0)), .val (.int (own_c1 p0)), .val (.int (own_c2 p0)), .val (.int (own_c3 p0)), .val (.ref b1), .val (.int (own_cn p2)), .val (.int (((p2.toUInt32 >>> ((3 : Int32) &&& 31).toUInt32).toInt32) &&& (3 : Int32))), .unset, .unset, .unset, .val (.int (p1 &&& (3 : Int32)))] [(.int (1 : Int32)), (.int (p1 &&& (3 : Int32)))])) t
            refine XS.icmpNo X9.here hx rfl (hb hby at_141) rfl (teq hc141).2 ?_
            exact kt
          refine OGo.step (F' := T9.setTop (mkF m 168 #[.val (.int p0), .val (.int p1), .val (.int p2), .val (.int (own_c0 p0)), .val (.int (own_c1 p0)), .val (.int (own_c2 p0)), .val (.int (own_c3 p0)), .val (.ref b1), .val (.int (own_cn p2)), .val (.int (((p2.toUInt32 >>> ((3 : Int32) &&& 31).toUInt32).toInt32) &&& (3 : Int32))), .unset, .val (.int (own_c1 p0)), .unset, .val (.int (p1 &&& (3 : Int32)))] [(.int (p1 &&& (3 : Int32))), (.ref b1)])) (fun t kt => ?_) ?_
          · show Steps p.tables e below (T9.setTop (mkF m 144 #[.val (.int p0), .val (.int p1), .val (.int p2), .val (.int (own_c0 p0)), .val (.int (own_c1 p0)), .val (.int (own_c2 p0)), .val (.int (own_c3 p0)), .val (.ref b1), .val (.int (own_cn p2)), .val (.int (((p2.toUInt32 >>> ((3 : Int32) &&& 31).toUInt32).toInt32) &&& (3 : Int32))), .unset, .unset, .unset, .val (.int (p1 &&& (3 : Int32)))] [])) t
            refine XS.iload X9.here hx rfl (hb hby at_144) rfl ?_
            refine XS.goto X9.here hx rfl (pc0 := 146) (pc' := 162) rfl (hb hby at_146) (by decide) (by decide) ?_
            refine XS.istore X9.here hx rfl (hb hby at_162) rfl (l' := #[.val (.int p0), .val (.int p1), .val (.int p2), .val (.int (own_c0 p0)), .val (.int (own_c1 p0)), .val (.int (own_c2 p0)), .val (.int (own_c3 p0)), .val (.ref b1), .val (.int (own_cn p2)), .val (.int (((p2.toUInt32 >>> ((3 : Int32) &&& 31).toUInt32).toInt32) &&& (3 : Int32))), .unset, .val (.int (own_c1 p0)), .unset, .val (.int (p1 &&& (3 : Int32)))]) rfl ?_
            refine XS.aload X9.here hx rfl (hb hby at_164) rfl rfl ?_
            refine XS.iload X9.here hx rfl (hb hby at_166) rfl ?_
            exact kt
          obtain ⟨cl75, Ar75, q75, S75, N75a, H75, G75⟩ := id (V9)
          have hin75 : ¬ ((p1 &&& (3 : Int32)) < 0 ∨ cl75.slots.size ≤ ((p1 &&& (3 : Int32))).toNatClampNeg) := inb_of S75 (own_atb _)
          have hat75 : cl75.slots[((p1 &&& (3 : Int32))).toNatClampNeg]? = some (.ref b4_r) := H75.at hin75 (by rw [hc141]; rfl)
          refine OGo.step (F' := T9.setTop (mkF m 169 #[.val (.int p0), .val (.int p1), .val (.int p2), .val (.int (own_c0 p0)), .val (.int (own_c1 p0)), .val (.int (own_c2 p0)), .val (.int (own_c3 p0)), .val (.ref b1), .val (.int (own_cn p2)), .val (.int (((p2.toUInt32 >>> ((3 : Int32) &&& 31).toUInt32).toInt32) &&& (3 : Int32))), .unset, .val (.int (own_c1 p0)), .unset, .val (.int (p1 &&& (3 : Int32)))] [(.ref b4_r)])) (fun t kt => ?_) ?_
          · show Steps p.tables e below (T9.setTop (mkF m 168 #[.val (.int p0), .val (.int p1), .val (.int p2), .val (.int (own_c0 p0)), .val (.int (own_c1 p0)), .val (.int (own_c2 p0)), .val (.int (own_c3 p0)), .val (.ref b1), .val (.int (own_cn p2)), .val (.int (((p2.toUInt32 >>> ((3 : Int32) &&& 31).toUInt32).toInt32) &&& (3 : Int32))), .unset, .val (.int (own_c1 p0)), .unset, .val (.int (p1 &&& (3 : Int32)))] [(.int (p1 &&& (3 : Int32))), (.ref b1)])) t
            refine X9.aaload hx (j := (p1 &&& (3 : Int32))) (v := (.ref b4_r)) (by rw [e9]; exact Ar75.1) (State.isArrayOf_alike hZ.alike Ar75.2.1) rfl Ar75.2.2 hin75 hat75 (g := (mkF m 168 #[.val (.int p0), .val (.int p1), .val (.int p2), .val (.int (own_c0 p0)), .val (.int (own_c1 p0)), .val (.int (own_c2 p0)), .val (.int (own_c3 p0)), .val (.ref b1), .val (.int (own_cn p2)), .val (.int (((p2.toUInt32 >>> ((3 : Int32) &&& 31).toUInt32).toInt32) &&& (3 : Int32))), .unset, .val (.int (own_c1 p0)), .unset, .val (.int (p1 &&& (3 : Int32)))] [(.int (p1 &&& (3 : Int32))), (.ref b1)])) rfl rfl (hb hby at_168) _ ?_
            exact kt
          refine OGo.step (F' := T9.setTop (mkF m 207 #[.val (.int p0), .val (.int p1), .val (.int p2), .val (.int (own_c0 p0)), .val (.int (own_c1 p0)), .val (.int (own_c2 p0)), .val (.int (own_c3 p0)), .val (.ref b1), .val (.int (own_cn p2)), .val (.int (((p2.toUInt32 >>> ((3 : Int32) &&& 31).toUInt32).toInt32) &&& (3 : Int32))), .val (.ref b4_r), .val (.int (own_c1 p0)), .val (.int (1 : Int32)), .val (.int (p1 &&& (3 : Int32)))] [])) (fun t kt => ?_) ?_
          · show Steps p.tables e below (T9.setTop (mkF m 169 #[.val (.int p0), .val (.int p1), .val (.int p2), .val (.int (own_c0 p0)), .val (.int (own_c1 p0)), .val (.int (own_c2 p0)), .val (.int (own_c3 p0)), .val (.ref b1), .val (.int (own_cn p2)), .val (.int (((p2.toUInt32 >>> ((3 : Int32) &&& 31).toUInt32).toInt32) &&& (3 : Int32))), .unset, .val (.int (own_c1 p0)), .unset, .val (.int (p1 &&& (3 : Int32)))] [(.ref b4_r)])) t
            refine XS.astore X9.here hx rfl (hb hby at_169) rfl rfl (l' := #[.val (.int p0), .val (.int p1), .val (.int p2), .val (.int (own_c0 p0)), .val (.int (own_c1 p0)), .val (.int (own_c2 p0)), .val (.int (own_c3 p0)), .val (.ref b1), .val (.int (own_cn p2)), .val (.int (((p2.toUInt32 >>> ((3 : Int32) &&& 31).toUInt32).toInt32) &&& (3 : Int32))), .val (.ref b4_r), .val (.int (own_c1 p0)), .unset, .val (.int (p1 &&& (3 : Int32)))]) rfl ?_
            refine XS.iconst X9.here hx rfl (hb hby at_171) ?_
            refine XS.istore X9.here hx rfl (hb hby at_172) rfl (l' := #[.val (.int p0), .val (.int p1), .val (.int p2), .val (.int (own_c0 p0)), .val (.int (own_c1 p0)), .val (.int (own_c2 p0)), .val (.int (own_c3 p0)), .val (.ref b1), .val (.int (own_cn p2)), .val (.int (((p2.toUInt32 >>> ((3 : Int32) &&& 31).toUInt32).toInt32) &&& (3 : Int32))), .val (.ref b4_r), .val (.int (own_c1 p0)), .val (.int (1 : Int32)), .val (.int (p1 &&& (3 : Int32)))]) rfl ?_
            refine XS.goto X9.here hx rfl (pc0 := 174) (pc' := 207) rfl (hb hby at_174) (by decide) (by decide) ?_
            exact kt
          exact J _ _ _ _ (One.val rfl) (own_r1 _) Z10_9 Z10_10 Z10_11 Z10_12 (fun q => absurd q (Nat.ne_of_lt (Nat.lt_of_lt_of_le (P2_0.wr W3).lt szo_b4_r))) (fun _ => rfl) (fun q => absurd q (Ne.symm (Nat.ne_of_lt (Nat.lt_of_lt_of_le (P4_0.wr W5).lt szo_b6_r)))) (fun q => absurd q (Ne.symm (Nat.ne_of_lt (Nat.lt_of_lt_of_le (((P4_0.wr W5).keep K6).wr W7).lt szo_b8_r))))
        · refine OGo.step (F' := T9.setTop (mkF m 149 #[.val (.int p0), .val (.int p1), .val (.int p2), .val (.int (own_c0 p0)), .val (.int (own_c1 p0)), .val (.int (own_c2 p0)), .val (.int (own_c3 p0)), .val (.ref b1), .val (.int (own_cn p2)), .val (.int (((p2.toUInt32 >>> ((3 : Int32) &&& 31).toUInt32).toInt32) &&& (3 : Int32))), .unset, .unset, .unset, .val (.int (p1 &&& (3 : Int32)))] [])) (fun t kt => ?_) ?_
          · show Steps p.tables e below (T9.setTop (mkF m 141 #[.val (.int p0), .val (.int p1), .val (.int p2), .val (.int (own_c0 p0)), .val (.int (own_c1 p0)), .val (.int (own_c2 p0)), .val (.int (own_c3 p0)), .val (.ref b1), .val (.int (own_cn p2)), .val (.int (((p2.toUInt32 >>> ((3 : Int32) &&& 31).toUInt32).toInt32) &&& (3 : Int32))), .unset, .unset, .unset, .val (.int (p1 &&& (3 : Int32)))] [(.int (1 : Int32)), (.int (p1 &&& (3 : Int32)))])) t
            refine XS.icmpYes X9.here hx rfl (pc0 := 141) (pc' := 149) rfl (hb hby at_141) rfl (feq hc141).2 (by decide) (by decide) ?_
            exact kt
          refine OGo.step (F' := T9.setTop (mkF m 152 #[.val (.int p0), .val (.int p1), .val (.int p2), .val (.int (own_c0 p0)), .val (.int (own_c1 p0)), .val (.int (own_c2 p0)), .val (.int (own_c3 p0)), .val (.ref b1), .val (.int (own_cn p2)), .val (.int (((p2.toUInt32 >>> ((3 : Int32) &&& 31).toUInt32).toInt32) &&& (3 : Int32))), .unset, .unset, .unset, .val (.int (p1 &&& (3 : Int32)))] [(.int (2 : Int32)), (.int (p1 &&& (3 : Int32)))])) (fun t kt => ?_) ?_
          · show Steps p.tables e below (T9.setTop (mkF m 149 #[.val (.int p0), .val (.int p1), .val (.int p2), .val (.int (own_c0 p0)), .val (.int (own_c1 p0)), .val (.int (own_c2 p0)), .val (.int (own_c3 p0)), .val (.ref b1), .val (.int (own_cn p2)), .val (.int (((p2.toUInt32 >>> ((3 : Int32) &&& 31).toUInt32).toInt32) &&& (3 : Int32))), .unset, .unset, .unset, .val (.int (p1 &&& (3 : Int32)))] [])) t
            refine XS.iload X9.here hx rfl (hb hby at_149) rfl ?_
            refine XS.iconst X9.here hx rfl (hb hby at_151) ?_
            exact kt
          by_cases hc152 : (p1 &&& (3 : Int32)) = (2 : Int32)
          · refine OGo.step (F' := T9.setTop (mkF m 155 #[.val (.int p0), .val (.int p1), .val (.int p2), .val (.int (own_c0 p0)), .val (.int (own_c1 p0)), .val (.int (own_c2 p0)), .val (.int (own_c3 p0)), .val (.ref b1), .val (.int (own_cn p2)), .val (.int (((p2.toUInt32 >>> ((3 : Int32) &&& 31).toUInt32).toInt32) &&& (3 : Int32))), .unset, .unset, .unset, .val (.int (p1 &&& (3 : Int32)))] [])) (fun t kt => ?_) ?_
            · show Steps p.tables e below (T9.setTop (mkF m 152 #[.val (.int p0), .val (.int p1), .val (.int p2), .val (.int (own_c0 p0)), .val (.int (own_c1 p0)), .val (.int (own_c2 p0)), .val (.int (own_c3 p0)), .val (.ref b1), .val (.int (own_cn p2)), .val (.int (((p2.toUInt32 >>> ((3 : Int32) &&& 31).toUInt32).toInt32) &&& (3 : Int32))), .unset, .unset, .unset, .val (.int (p1 &&& (3 : Int32)))] [(.int (2 : Int32)), (.int (p1 &&& (3 : Int32)))])) t
              refine XS.icmpNo X9.here hx rfl (hb hby at_152) rfl (teq hc152).2 ?_
              exact kt
            refine OGo.step (F' := T9.setTop (mkF m 168 #[.val (.int p0), .val (.int p1), .val (.int p2), .val (.int (own_c0 p0)), .val (.int (own_c1 p0)), .val (.int (own_c2 p0)), .val (.int (own_c3 p0)), .val (.ref b1), .val (.int (own_cn p2)), .val (.int (((p2.toUInt32 >>> ((3 : Int32) &&& 31).toUInt32).toInt32) &&& (3 : Int32))), .unset, .val (.int (own_c2 p0)), .unset, .val (.int (p1 &&& (3 : Int32)))] [(.int (p1 &&& (3 : Int32))), (.ref b1)])) (fun t kt => ?_) ?_
            · show Steps p.tables e below (T9.setTop (mkF m 155 #[.val (.int p0), .val (.int p1), .val (.int p2), .val (.int (own_c0 p0)), .val (.int (own_c1 p0)), .val (.int (own_c2 p0)), .val (.int (own_c3 p0)), .val (.ref b1), .val (.int (own_cn p2)), .val (.int (((p2.toUInt32 >>> ((3 : Int32) &&& 31).toUInt32).toInt32) &&& (3 : Int32))), .unset, .unset, .unset, .val (.int (p1 &&& (3 : Int32)))] [])) t
              refine XS.iload X9.here hx rfl (hb hby at_155) rfl ?_
              refine XS.goto X9.here hx rfl (pc0 := 157) (pc' := 162) rfl (hb hby at_157) (by decide) (by decide) ?_
              refine XS.istore X9.here hx rfl (hb hby at_162) rfl (l' := #[.val (.int p0), .val (.int p1), .val (.int p2), .val (.int (own_c0 p0)), .val (.int (own_c1 p0)), .val (.int (own_c2 p0)), .val (.int (own_c3 p0)), .val (.ref b1), .val (.int (own_cn p2)), .val (.int (((p2.toUInt32 >>> ((3 : Int32) &&& 31).toUInt32).toInt32) &&& (3 : Int32))), .unset, .val (.int (own_c2 p0)), .unset, .val (.int (p1 &&& (3 : Int32)))]) rfl ?_
              refine XS.aload X9.here hx rfl (hb hby at_164) rfl rfl ?_
              refine XS.iload X9.here hx rfl (hb hby at_166) rfl ?_
              exact kt
            obtain ⟨cl76, Ar76, q76, S76, N76a, H76, G76⟩ := id (V9)
            have hin76 : ¬ ((p1 &&& (3 : Int32)) < 0 ∨ cl76.slots.size ≤ ((p1 &&& (3 : Int32))).toNatClampNeg) := inb_of S76 (own_atb _)
            have hat76 : cl76.slots[((p1 &&& (3 : Int32))).toNatClampNeg]? = some (.ref b6_r) := H76.at hin76 (by rw [hc152]; rfl)
            refine OGo.step (F' := T9.setTop (mkF m 169 #[.val (.int p0), .val (.int p1), .val (.int p2), .val (.int (own_c0 p0)), .val (.int (own_c1 p0)), .val (.int (own_c2 p0)), .val (.int (own_c3 p0)), .val (.ref b1), .val (.int (own_cn p2)), .val (.int (((p2.toUInt32 >>> ((3 : Int32) &&& 31).toUInt32).toInt32) &&& (3 : Int32))), .unset, .val (.int (own_c2 p0)), .unset, .val (.int (p1 &&& (3 : Int32)))] [(.ref b6_r)])) (fun t kt => ?_) ?_
            · show Steps p.tables e below (T9.setTop (mkF m 168 #[.val (.int p0), .val (.int p1), .val (.int p2), .val (.int (own_c0 p0)), .val (.int (own_c1 p0)), .val (.int (own_c2 p0)), .val (.int (own_c3 p0)), .val (.ref b1), .val (.int (own_cn p2)), .val (.int (((p2.toUInt32 >>> ((3 : Int32) &&& 31).toUInt32).toInt32) &&& (3 : Int32))), .unset, .val (.int (own_c2 p0)), .unset, .val (.int (p1 &&& (3 : Int32)))] [(.int (p1 &&& (3 : Int32))), (.ref b1)])) t
              refine X9.aaload hx (j := (p1 &&& (3 : Int32))) (v := (.ref b6_r)) (by rw [e9]; exact Ar76.1) (State.isArrayOf_alike hZ.alike Ar76.2.1) rfl Ar76.2.2 hin76 hat76 (g := (mkF m 168 #[.val (.int p0), .val (.int p1), .val (.int p2), .val (.int (own_c0 p0)), .val (.int (own_c1 p0)), .val (.int (own_c2 p0)), .val (.int (own_c3 p0)), .val (.ref b1), .val (.int (own_cn p2)), .val (.int (((p2.toUInt32 >>> ((3 : Int32) &&& 31).toUInt32).toInt32) &&& (3 : Int32))), .unset, .val (.int (own_c2 p0)), .unset, .val (.int (p1 &&& (3 : Int32)))] [(.int (p1 &&& (3 : Int32))), (.ref b1)])) rfl rfl (hb hby at_168) _ ?_
              exact kt
            refine OGo.step (F' := T9.setTop (mkF m 207 #[.val (.int p0), .val (.int p1), .val (.int p2), .val (.int (own_c0 p0)), .val (.int (own_c1 p0)), .val (.int (own_c2 p0)), .val (.int (own_c3 p0)), .val (.ref b1), .val (.int (own_cn p2)), .val (.int (((p2.toUInt32 >>> ((3 : Int32) &&& 31).toUInt32).toInt32) &&& (3 : Int32))), .val (.ref b6_r), .val (.int (own_c2 p0)), .val (.int (1 : Int32)), .val (.int (p1 &&& (3 : Int32)))] [])) (fun t kt => ?_) ?_
            · show Steps p.tables e below (T9.setTop (mkF m 169 #[.val (.int p0), .val (.int p1), .val (.int p2), .val (.int (own_c0 p0)), .val (.int (own_c1 p0)), .val (.int (own_c2 p0)), .val (.int (own_c3 p0)), .val (.ref b1), .val (.int (own_cn p2)), .val (.int (((p2.toUInt32 >>> ((3 : Int32) &&& 31).toUInt32).toInt32) &&& (3 : Int32))), .unset, .val (.int (own_c2 p0)), .unset, .val (.int (p1 &&& (3 : Int32)))] [(.ref b6_r)])) t
              refine XS.astore X9.here hx rfl (hb hby at_169) rfl rfl (l' := #[.val (.int p0), .val (.int p1), .val (.int p2), .val (.int (own_c0 p0)), .val (.int (own_c1 p0)), .val (.int (own_c2 p0)), .val (.int (own_c3 p0)), .val (.ref b1), .val (.int (own_cn p2)), .val (.int (((p2.toUInt32 >>> ((3 : Int32) &&& 31).toUInt32).toInt32) &&& (3 : Int32))), .val (.ref b6_r), .val (.int (own_c2 p0)), .unset, .val (.int (p1 &&& (3 : Int32)))]) rfl ?_
              refine XS.iconst X9.here hx rfl (hb hby at_171) ?_
              refine XS.istore X9.here hx rfl (hb hby at_172) rfl (l' := #[.val (.int p0), .val (.int p1), .val (.int p2), .val (.int (own_c0 p0)), .val (.int (own_c1 p0)), .val (.int (own_c2 p0)), .val (.int (own_c3 p0)), .val (.ref b1), .val (.int (own_cn p2)), .val (.int (((p2.toUInt32 >>> ((3 : Int32) &&& 31).toUInt32).toInt32) &&& (3 : Int32))), .val (.ref b6_r), .val (.int (own_c2 p0)), .val (.int (1 : Int32)), .val (.int (p1 &&& (3 : Int32)))]) rfl ?_
              refine XS.goto X9.here hx rfl (pc0 := 174) (pc' := 207) rfl (hb hby at_174) (by decide) (by decide) ?_
              exact kt
            exact J _ _ _ _ (One.val rfl) (own_r2 _) Z10_13 Z10_14 Z10_15 Z10_16 (fun q => absurd q (Nat.ne_of_lt (Nat.lt_of_lt_of_le (((P2_0.wr W3).keep K4).wr W5).lt szo_b6_r))) (fun q => absurd q (Nat.ne_of_lt (Nat.lt_of_lt_of_le (P4_0.wr W5).lt szo_b6_r))) (fun _ => rfl) (fun q => absurd q (Ne.symm (Nat.ne_of_lt (Nat.lt_of_lt_of_le (P6_0.wr W7).lt szo_b8_r))))
          · refine OGo.step (F' := T9.setTop (mkF m 160 #[.val (.int p0), .val (.int p1), .val (.int p2), .val (.int (own_c0 p0)), .val (.int (own_c1 p0)), .val (.int (own_c2 p0)), .val (.int (own_c3 p0)), .val (.ref b1), .val (.int (own_cn p2)), .val (.int (((p2.toUInt32 >>> ((3 : Int32) &&& 31).toUInt32).toInt32) &&& (3 : Int32))), .unset, .unset, .unset, .val (.int (p1 &&& (3 : Int32)))] [])) (fun t kt => ?_) ?_
            · show Steps p.tables e below (T9.setTop (mkF m 152 #[.val (.int p0), .val (.int p1), .val (.int p2), .val (.int (own_c0 p0)), .val (.int (own_c1 p0)), .val (.int (own_c2 p0)), .val (.int (own_c3 p0)), .val (.ref b1), .val (.int (own_cn p2)), .val (.int (((p2.toUInt32 >>> ((3 : Int32) &&& 31).toUInt32).toInt32) &&& (3 : Int32))), .unset, .unset, .unset, .val (.int (p1 &&& (3 : Int32)))] [(.int (2 : Int32)), (.int (p1 &&& (3 : Int32)))])) t
              refine XS.icmpYes X9.here hx rfl (pc0 := 152) (pc' := 160) rfl (hb hby at_152) rfl (feq hc152).2 (by decide) (by decide) ?_
              exact kt
            refine OGo.step (F' := T9.setTop (mkF m 168 #[.val (.int p0), .val (.int p1), .val (.int p2), .val (.int (own_c0 p0)), .val (.int (own_c1 p0)), .val (.int (own_c2 p0)), .val (.int (own_c3 p0)), .val (.ref b1), .val (.int (own_cn p2)), .val (.int (((p2.toUInt32 >>> ((3 : Int32) &&& 31).toUInt32).toInt32) &&& (3 : Int32))), .unset, .val (.int (own_c3 p0)), .unset, .val (.int (p1 &&& (3 : Int32)))] [(.int (p1 &&& (3 : Int32))), (.ref b1)])) (fun t kt => ?_) ?_
            · show Steps p.tables e below (T9.setTop (mkF m 160 #[.val (.int p0), .val (.int p1), .val (.int p2), .val (.int (own_c0 p0)), .val (.int (own_c1 p0)), .val (.int (own_c2 p0)), .val (.int (own_c3 p0)), .val (.ref b1), .val (.int (own_cn p2)), .val (.int (((p2.toUInt32 >>> ((3 : Int32) &&& 31).toUInt32).toInt32) &&& (3 : Int32))), .unset, .unset, .unset, .val (.int (p1 &&& (3 : Int32)))] [])) t
              refine XS.iload X9.here hx rfl (hb hby at_160) rfl ?_
              refine XS.istore X9.here hx rfl (hb hby at_162) rfl (l' := #[.val (.int p0), .val (.int p1), .val (.int p2), .val (.int (own_c0 p0)), .val (.int (own_c1 p0)), .val (.int (own_c2 p0)), .val (.int (own_c3 p0)), .val (.ref b1), .val (.int (own_cn p2)), .val (.int (((p2.toUInt32 >>> ((3 : Int32) &&& 31).toUInt32).toInt32) &&& (3 : Int32))), .unset, .val (.int (own_c3 p0)), .unset, .val (.int (p1 &&& (3 : Int32)))]) rfl ?_
              refine XS.aload X9.here hx rfl (hb hby at_164) rfl rfl ?_
              refine XS.iload X9.here hx rfl (hb hby at_166) rfl ?_
              exact kt
            obtain ⟨cl77, Ar77, q77, S77, N77a, H77, G77⟩ := id (V9)
            have hin77 : ¬ ((p1 &&& (3 : Int32)) < 0 ∨ cl77.slots.size ≤ ((p1 &&& (3 : Int32))).toNatClampNeg) := inb_of S77 (own_atb _)
            have hat77 : cl77.slots[((p1 &&& (3 : Int32))).toNatClampNeg]? = some (.ref b8_r) := H77.at hin77 (by rw [own_at3 _ hc131 hc141 hc152]; rfl)
            refine OGo.step (F' := T9.setTop (mkF m 169 #[.val (.int p0), .val (.int p1), .val (.int p2), .val (.int (own_c0 p0)), .val (.int (own_c1 p0)), .val (.int (own_c2 p0)), .val (.int (own_c3 p0)), .val (.ref b1), .val (.int (own_cn p2)), .val (.int (((p2.toUInt32 >>> ((3 : Int32) &&& 31).toUInt32).toInt32) &&& (3 : Int32))), .unset, .val (.int (own_c3 p0)), .unset, .val (.int (p1 &&& (3 : Int32)))] [(.ref b8_r)])) (fun t kt => ?_) ?_
            · show Steps p.tables e below (T9.setTop (mkF m 168 #[.val (.int p0), .val (.int p1), .val (.int p2), .val (.int (own_c0 p0)), .val (.int (own_c1 p0)), .val (.int (own_c2 p0)), .val (.int (own_c3 p0)), .val (.ref b1), .val (.int (own_cn p2)), .val (.int (((p2.toUInt32 >>> ((3 : Int32) &&& 31).toUInt32).toInt32) &&& (3 : Int32))), .unset, .val (.int (own_c3 p0)), .unset, .val (.int (p1 &&& (3 : Int32)))] [(.int (p1 &&& (3 : Int32))), (.ref b1)])) t
              refine X9.aaload hx (j := (p1 &&& (3 : Int32))) (v := (.ref b8_r)) (by rw [e9]; exact Ar77.1) (State.isArrayOf_alike hZ.alike Ar77.2.1) rfl Ar77.2.2 hin77 hat77 (g := (mkF m 168 #[.val (.int p0), .val (.int p1), .val (.int p2), .val (.int (own_c0 p0)), .val (.int (own_c1 p0)), .val (.int (own_c2 p0)), .val (.int (own_c3 p0)), .val (.ref b1), .val (.int (own_cn p2)), .val (.int (((p2.toUInt32 >>> ((3 : Int32) &&& 31).toUInt32).toInt32) &&& (3 : Int32))), .unset, .val (.int (own_c3 p0)), .unset, .val (.int (p1 &&& (3 : Int32)))] [(.int (p1 &&& (3 : Int32))), (.ref b1)])) rfl rfl (hb hby at_168) _ ?_
              exact kt
            refine OGo.step (F' := T9.setTop (mkF m 207 #[.val (.int p0), .val (.int p1), .val (.int p2), .val (.int (own_c0 p0)), .val (.int (own_c1 p0)), .val (.int (own_c2 p0)), .val (.int (own_c3 p0)), .val (.ref b1), .val (.int (own_cn p2)), .val (.int (((p2.toUInt32 >>> ((3 : Int32) &&& 31).toUInt32).toInt32) &&& (3 : Int32))), .val (.ref b8_r), .val (.int (own_c3 p0)), .val (.int (1 : Int32)), .val (.int (p1 &&& (3 : Int32)))] [])) (fun t kt => ?_) ?_
            · show Steps p.tables e below (T9.setTop (mkF m 169 #[.val (.int p0), .val (.int p1), .val (.int p2), .val (.int (own_c0 p0)), .val (.int (own_c1 p0)), .val (.int (own_c2 p0)), .val (.int (own_c3 p0)), .val (.ref b1), .val (.int (own_cn p2)), .val (.int (((p2.toUInt32 >>> ((3 : Int32) &&& 31).toUInt32).toInt32) &&& (3 : Int32))), .unset, .val (.int (own_c3 p0)), .unset, .val (.int (p1 &&& (3 : Int32)))] [(.ref b8_r)])) t
              refine XS.astore X9.here hx rfl (hb hby at_169) rfl rfl (l' := #[.val (.int p0), .val (.int p1), .val (.int p2), .val (.int (own_c0 p0)), .val (.int (own_c1 p0)), .val (.int (own_c2 p0)), .val (.int (own_c3 p0)), .val (.ref b1), .val (.int (own_cn p2)), .val (.int (((p2.toUInt32 >>> ((3 : Int32) &&& 31).toUInt32).toInt32) &&& (3 : Int32))), .val (.ref b8_r), .val (.int (own_c3 p0)), .unset, .val (.int (p1 &&& (3 : Int32)))]) rfl ?_
              refine XS.iconst X9.here hx rfl (hb hby at_171) ?_
              refine XS.istore X9.here hx rfl (hb hby at_172) rfl (l' := #[.val (.int p0), .val (.int p1), .val (.int p2), .val (.int (own_c0 p0)), .val (.int (own_c1 p0)), .val (.int (own_c2 p0)), .val (.int (own_c3 p0)), .val (.ref b1), .val (.int (own_cn p2)), .val (.int (((p2.toUInt32 >>> ((3 : Int32) &&& 31).toUInt32).toInt32) &&& (3 : Int32))), .val (.ref b8_r), .val (.int (own_c3 p0)), .val (.int (1 : Int32)), .val (.int (p1 &&& (3 : Int32)))]) rfl ?_
              refine XS.goto X9.here hx rfl (pc0 := 174) (pc' := 207) rfl (hb hby at_174) (by decide) (by decide) ?_
              exact kt
            exact J _ _ _ _ (One.val rfl) (own_r3 _) Z10_17 Z10_18 Z10_19 Z10_20 (fun q => absurd q (Nat.ne_of_lt (Nat.lt_of_lt_of_le (((((P2_0.wr W3).keep K4).wr W5).keep K6).wr W7).lt szo_b8_r))) (fun q => absurd q (Nat.ne_of_lt (Nat.lt_of_lt_of_le (((P4_0.wr W5).keep K6).wr W7).lt szo_b8_r))) (fun q => absurd q (Nat.ne_of_lt (Nat.lt_of_lt_of_le (P6_0.wr W7).lt szo_b8_r))) (fun _ => rfl)
    · refine OGo.step (F' := T9.setTop (mkF m 177 #[.val (.int p0), .val (.int p1), .val (.int p2), .val (.int (own_c0 p0)), .val (.int (own_c1 p0)), .val (.int (own_c2 p0)), .val (.int (own_c3 p0)), .val (.ref b1), .val (.int (own_cn p2)), .val (.int (((p2.toUInt32 >>> ((3 : Int32) &&& 31).toUInt32).toInt32) &&& (3 : Int32))), .unset, .unset, .unset, .unset] [])) (fun t kt => ?_) ?_
      · show Steps p.tables e below (T9.setTop (mkF m 121 #[.val (.int p0), .val (.int p1), .val (.int p2), .val (.int (own_c0 p0)), .val (.int (own_c1 p0)), .val (.int (own_c2 p0)), .val (.int (own_c3 p0)), .val (.ref b1), .val (.int (own_cn p2)), .val (.int (((p2.toUInt32 >>> ((3 : Int32) &&& 31).toUInt32).toInt32) &&& (3 : Int32))), .unset, .unset, .unset, .unset] [(.int (1 : Int32)), (.int (((p2.toUInt32 >>> ((3 : Int32) &&& 31).toUInt32).toInt32) &&& (3 : Int32)))])) t
        refine XS.icmpYes X9.here hx rfl (pc0 := 121) (pc' := 177) rfl (hb hby at_121) rfl (feq hc121).2 (by decide) (by decide) ?_
        exact kt
      refine OGo.step (F' := T9.setTop (mkF m 180 #[.val (.int p0), .val (.int p1), .val (.int p2), .val (.int (own_c0 p0)), .val (.int (own_c1 p0)), .val (.int (own_c2 p0)), .val (.int (own_c3 p0)), .val (.ref b1), .val (.int (own_cn p2)), .val (.int (((p2.toUInt32 >>> ((3 : Int32) &&& 31).toUInt32).toInt32) &&& (3 : Int32))), .unset, .unset, .unset, .unset] [(.int (2 : Int32)), (.int (((p2.toUInt32 >>> ((3 : Int32) &&& 31).toUInt32).toInt32) &&& (3 : Int32)))])) (fun t kt => ?_) ?_
      · show Steps p.tables e below (T9.setTop (mkF m 177 #[.val (.int p0), .val (.int p1), .val (.int p2), .val (.int (own_c0 p0)), .val (.int (own_c1 p0)), .val (.int (own_c2 p0)), .val (.int (own_c3 p0)), .val (.ref b1), .val (.int (own_cn p2)), .val (.int (((p2.toUInt32 >>> ((3 : Int32) &&& 31).toUInt32).toInt32) &&& (3 : Int32))), .unset, .unset, .unset, .unset] [])) t
        refine XS.iload X9.here hx rfl (hb hby at_177) rfl ?_
        refine XS.iconst X9.here hx rfl (hb hby at_179) ?_
        exact kt
      by_cases hc180 : (((p2.toUInt32 >>> ((3 : Int32) &&& 31).toUInt32).toInt32) &&& (3 : Int32)) = (2 : Int32)
      · refine OGo.step (F' := T9.setTop (mkF m 183 #[.val (.int p0), .val (.int p1), .val (.int p2), .val (.int (own_c0 p0)), .val (.int (own_c1 p0)), .val (.int (own_c2 p0)), .val (.int (own_c3 p0)), .val (.ref b1), .val (.int (own_cn p2)), .val (.int (((p2.toUInt32 >>> ((3 : Int32) &&& 31).toUInt32).toInt32) &&& (3 : Int32))), .unset, .unset, .unset, .unset] [])) (fun t kt => ?_) ?_
        · show Steps p.tables e below (T9.setTop (mkF m 180 #[.val (.int p0), .val (.int p1), .val (.int p2), .val (.int (own_c0 p0)), .val (.int (own_c1 p0)), .val (.int (own_c2 p0)), .val (.int (own_c3 p0)), .val (.ref b1), .val (.int (own_cn p2)), .val (.int (((p2.toUInt32 >>> ((3 : Int32) &&& 31).toUInt32).toInt32) &&& (3 : Int32))), .unset, .unset, .unset, .unset] [(.int (2 : Int32)), (.int (((p2.toUInt32 >>> ((3 : Int32) &&& 31).toUInt32).toInt32) &&& (3 : Int32)))])) t
          refine XS.icmpNo X9.here hx rfl (hb hby at_180) rfl (teq hc180).2 ?_
          exact kt
        refine OGo.step (F' := T9.setTop (mkF m 292 #[.val (.int p0), .val (.int p1), .val (.int p2), .val (.int (own_c0 p0)), .val (.int (own_c1 p0)), .val (.int (own_c2 p0)), .val (.int (own_c3 p0)), .val (.ref b1), .val (.int (own_cn p2)), .val (.int (((p2.toUInt32 >>> ((3 : Int32) &&& 31).toUInt32).toInt32) &&& (3 : Int32))), .val .null, .val (.int (-1 : Int32)), .val (.int (0 : Int32)), .val (.int (-1 : Int32))] [.null, (.int (own_cn p2)), (.ref b1)])) (fun t kt => ?_) ?_
        · show Steps p.tables e below (T9.setTop (mkF m 183 #[.val (.int p0), .val (.int p1), .val (.int p2), .val (.int (own_c0 p0)), .val (.int (own_c1 p0)), .val (.int (own_c2 p0)), .val (.int (own_c3 p0)), .val (.ref b1), .val (.int (own_cn p2)), .val (.int (((p2.toUInt32 >>> ((3 : Int32) &&& 31).toUInt32).toInt32) &&& (3 : Int32))), .unset, .unset, .unset, .unset] [])) t
          refine XS.iconst X9.here hx rfl (hb hby at_183) ?_
          refine XS.istore X9.here hx rfl (hb hby at_184) rfl (l' := #[.val (.int p0), .val (.int p1), .val (.int p2), .val (.int (own_c0 p0)), .val (.int (own_c1 p0)), .val (.int (own_c2 p0)), .val (.int (own_c3 p0)), .val (.ref b1), .val (.int (own_cn p2)), .val (.int (((p2.toUInt32 >>> ((3 : Int32) &&& 31).toUInt32).toInt32) &&& (3 : Int32))), .unset, .val (.int (-1 : Int32)), .unset, .unset]) rfl ?_
          refine XS.aconstNull X9.here hx rfl (hb hby at_186) ?_
          refine XS.astore X9.here hx rfl (hb hby at_187) rfl rfl (l' := #[.val (.int p0), .val (.int p1), .val (.int p2), .val (.int (own_c0 p0)), .val (.int (own_c1 p0)), .val (.int (own_c2 p0)), .val (.int (own_c3 p0)), .val (.ref b1), .val (.int (own_cn p2)), .val (.int (((p2.toUInt32 >>> ((3 : Int32) &&& 31).toUInt32).toInt32) &&& (3 : Int32))), .val .null, .val (.int (-1 : Int32)), .unset, .unset]) rfl ?_
          refine XS.iconst X9.here hx rfl (hb hby at_189) ?_
          refine XS.istore X9.here hx rfl (hb hby at_190) rfl (l' := #[.val (.int p0), .val (.int p1), .val (.int p2), .val (.int (own_c0 p0)), .val (.int (own_c1 p0)), .val (.int (own_c2 p0)), .val (.int (own_c3 p0)), .val (.ref b1), .val (.int (own_cn p2)), .val (.int (((p2.toUInt32 >>> ((3 : Int32) &&& 31).toUInt32).toInt32) &&& (3 : Int32))), .val .null, .val (.int (-1 : Int32)), .val (.int (0 : Int32)), .unset]) rfl ?_
          refine XS.goto X9.here hx rfl (pc0 := 192) (pc' := 207) rfl (hb hby at_192) (by decide) (by decide) ?_
          refine XS.iconst X9.here hx rfl (hb hby at_207) ?_
          refine XS.istore X9.here hx rfl (hb hby at_208) rfl (l' := #[.val (.int p0), .val (.int p1), .val (.int p2), .val (.int (own_c0 p0)), .val (.int (own_c1 p0)), .val (.int (own_c2 p0)), .val (.int (own_c3 p0)), .val (.ref b1), .val (.int (own_cn p2)), .val (.int (((p2.toUInt32 >>> ((3 : Int32) &&& 31).toUInt32).toInt32) &&& (3 : Int32))), .val .null, .val (.int (-1 : Int32)), .val (.int (0 : Int32)), .val (.int (-1 : Int32))]) rfl ?_
          refine XS.iload X9.here hx rfl (hb hby at_210) rfl ?_
          refine XS.ifYes X9.here hx rfl (pc0 := 212) (pc' := 286) rfl (hb hby at_212) rfl ((if0 _ _).trans (teq (by decide : (0 : Int32) = (0 : Int32))).1) (by decide) (by decide) ?_
          refine XS.aload X9.here hx rfl (hb hby at_286) rfl rfl ?_
          refine XS.iload X9.here hx rfl (hb hby at_288) rfl ?_
          refine XS.aload X9.here hx rfl (hb hby at_290) rfl rfl ?_
          exact kt
        refine OGo.callS X9 hx hZ (y := (⟨"com/example/kette/kette/JsonObject", "walk", "([Ljava/lang/String;ILjava/lang/Object;)I"⟩ : MethodName)) hown (own_wd hw 28 rfl) (own_wd hw 29 rfl) (own_wd hw 30 rfl) (own_wd hw 31 rfl) (by decide) (rm6z l Z az hw [] b1 (own_cn p2) k1 b2_r b4_r b6_r b8_r h9 n0 (Nat.le_trans Z0 KC9.1) V9 Z10_5 Z10_9 Z10_13 Z10_17 (own_cnt _)) (W := 0) (by decide) (by decide) (g := (mkF m 292 #[.val (.int p0), .val (.int p1), .val (.int p2), .val (.int (own_c0 p0)), .val (.int (own_c1 p0)), .val (.int (own_c2 p0)), .val (.int (own_c3 p0)), .val (.ref b1), .val (.int (own_cn p2)), .val (.int (((p2.toUInt32 >>> ((3 : Int32) &&& 31).toUInt32).toInt32) &&& (3 : Int32))), .val .null, .val (.int (-1 : Int32)), .val (.int (0 : Int32)), .val (.int (-1 : Int32))] [.null, (.int (own_cn p2)), (.ref b1)])) rfl (by rw [hml]; rfl) (argsL := [(.ref b1), (.int (own_cn p2)), .null]) (rest := []) (lenOf pd_0_1 rfl) rfl (by show 2 * 0 + _ ≤ _; exact Nat.le_of_eq rfl) (hb hby at_292) rfl e9 (by decide) (by decide) ?_
        rintro _ T78 L78 X78 ⟨rfl, Nq78, e78⟩
        have N78 := Fr.app N9 Nq78
        show OGo _ _ _ _ _ _ _ (T78.setTop (mkF m 295 #[.val (.int p0), .val (.int p1), .val (.int p2), .val (.int (own_c0 p0)), .val (.int (own_c1 p0)), .val (.int (own_c2 p0)), .val (.int (own_c3 p0)), .val (.ref b1), .val (.int (own_cn p2)), .val (.int (((p2.toUInt32 >>> ((3 : Int32) &&& 31).toUInt32).toInt32) &&& (3 : Int32))), .val .null, .val (.int (-1 : Int32)), .val (.int (0 : Int32)), .val (.int (-1 : Int32))] [(.int (f6z (own_cn p2)))]))
        refine OGo.step (F' := T78.setTop (mkF m 305 #[.val (.int p0), .val (.int p1), .val (.int p2), .val (.int (own_c0 p0)), .val (.int (own_c1 p0)), .val (.int (own_c2 p0)), .val (.int (own_c3 p0)), .val (.ref b1), .val (.int (own_cn p2)), .val (.int (((p2.toUInt32 >>> ((3 : Int32) &&& 31).toUInt32).toInt32) &&& (3 : Int32))), .val .null, .val (.int (-1 : Int32)), .val (.int (0 : Int32)), .val (.int (-1 : Int32))] [(.int (1 : Int32))])) (fun t kt => ?_) ?_
        · show Steps p.tables e below (T78.setTop (mkF m 295 #[.val (.int p0), .val (.int p1), .val (.int p2), .val (.int (own_c0 p0)), .val (.int (own_c1 p0)), .val (.int (own_c2 p0)), .val (.int (own_c3 p0)), .val (.ref b1), .val (.int (own_cn p2)), .val (.int (((p2.toUInt32 >>> ((3 : Int32) &&& 31).toUInt32).toInt32) &&& (3 : Int32))), .val .null, .val (.int (-1 : Int32)), .val (.int (0 : Int32)), .val (.int (-1 : Int32))] [(.int (f6z (own_cn p2)))])) t
          refine XS.iload X78.here hx rfl (hb hby at_295) rfl ?_
          refine XS.icmpNo X78.here hx rfl (hb hby at_297) rfl (teq (own_z _)).2 ?_
          refine XS.iconst X78.here hx rfl (hb hby at_300) ?_
          refine XS.goto X78.here hx rfl (pc0 := 301) (pc' := 305) rfl (hb hby at_301) (by decide) (by decide) ?_
          exact kt
        refine OGo.retZ X78 hx hlk (t := .boolean) (z' := (1 : Int32)) hret (by simp) (hb hby at_305) rfl ?_ (by decide) (by decide)
        show Q0 Z p0 p1 p2 w_high w_cache w_COMPACT_STRINGS h0 n0 _ T78.heap _
        rw [e78]
        exact ⟨rfl, N78, KC9⟩
      · refine OGo.step (F' := T9.setTop (mkF m 195 #[.val (.int p0), .val (.int p1), .val (.int p2), .val (.int (own_c0 p0)), .val (.int (own_c1 p0)), .val (.int (own_c2 p0)), .val (.int (own_c3 p0)), .val (.ref b1), .val (.int (own_cn p2)), .val (.int (((p2.toUInt32 >>> ((3 : Int32) &&& 31).toUInt32).toInt32) &&& (3 : Int32))), .unset, .unset, .unset, .unset] [])) (fun t kt => ?_) ?_
        · show Steps p.tables e below (T9.setTop (mkF m 180 #[.val (.int p0), .val (.int p1), .val (.int p2), .val (.int (own_c0 p0)), .val (.int (own_c1 p0)), .val (.int (own_c2 p0)), .val (.int (own_c3 p0)), .val (.ref b1), .val (.int (own_cn p2)), .val (.int (((p2.toUInt32 >>> ((3 : Int32) &&& 31).toUInt32).toInt32) &&& (3 : Int32))), .unset, .unset, .unset, .unset] [(.int (2 : Int32)), (.int (((p2.toUInt32 >>> ((3 : Int32) &&& 31).toUInt32).toInt32) &&& (3 : Int32)))])) t
          refine XS.icmpYes X9.here hx rfl (pc0 := 180) (pc' := 195) rfl (hb hby at_180) rfl (feq hc180).2 (by decide) (by decide) ?_
          exact kt
        refine OGo.step (F' := T9.setTop (mkF m 199 #[.val (.int p0), .val (.int p1), .val (.int p2), .val (.int (own_c0 p0)), .val (.int (own_c1 p0)), .val (.int (own_c2 p0)), .val (.int (own_c3 p0)), .val (.ref b1), .val (.int (own_cn p2)), .val (.int (((p2.toUInt32 >>> ((3 : Int32) &&& 31).toUInt32).toInt32) &&& (3 : Int32))), .unset, .val (.int (-1 : Int32)), .unset, .unset] [(.int p1)])) (fun t kt => ?_) ?_
        · show Steps p.tables e below (T9.setTop (mkF m 195 #[.val (.int p0), .val (.int p1), .val (.int p2), .val (.int (own_c0 p0)), .val (.int (own_c1 p0)), .val (.int (own_c2 p0)), .val (.int (own_c3 p0)), .val (.ref b1), .val (.int (own_cn p2)), .val (.int (((p2.toUInt32 >>> ((3 : Int32) &&& 31).toUInt32).toInt32) &&& (3 : Int32))), .unset, .unset, .unset, .unset] [])) t
          refine XS.iconst X9.here hx rfl (hb hby at_195) ?_
          refine XS.istore X9.here hx rfl (hb hby at_196) rfl (l' := #[.val (.int p0), .val (.int p1), .val (.int p2), .val (.int (own_c0 p0)), .val (.int (own_c1 p0)), .val (.int (own_c2 p0)), .val (.int (own_c3 p0)), .val (.ref b1), .val (.int (own_cn p2)), .val (.int (((p2.toUInt32 >>> ((3 : Int32) &&& 31).toUInt32).toInt32) &&& (3 : Int32))), .unset, .val (.int (-1 : Int32)), .unset, .unset]) rfl ?_
          refine XS.iloadN X9.here hx rfl (hb hby at_198) rfl ?_
          exact kt
        refine OGo.callS X9 hx hZ (y := (⟨"java/lang/Integer", "valueOf", "(I)Ljava/lang/Integer;"⟩ : MethodName)) hown (own_wd hw 40 rfl) (own_wd hw 41 rfl) (own_wd hw 42 rfl) (own_wd hw 43 rfl) (by decide) (rm9 l Z az hw [] p1 w_high w_cache h9 n0 (Nat.le_trans Z0 KC9.1) Z10_1 Z10_2 hHi Z10_3) (W := 0) (by decide) (by decide) (g := (mkF m 199 #[.val (.int p0), .val (.int p1), .val (.int p2), .val (.int (own_c0 p0)), .val (.int (own_c1 p0)), .val (.int (own_c2 p0)), .val (.int (own_c3 p0)), .val (.ref b1), .val (.int (own_cn p2)), .val (.int (((p2.toUInt32 >>> ((3 : Int32) &&& 31).toUInt32).toInt32) &&& (3 : Int32))), .unset, .val (.int (-1 : Int32)), .unset, .unset] [(.int p1)])) rfl (by rw [hml]; rfl) (argsL := [(.int p1)]) (rest := []) (lenOf pd_0_2 rfl) rfl (by show 2 * 0 + _ ≤ _; exact Nat.le_of_eq rfl) (hb hby at_199) rfl e9 (by decide) (by decide) ?_
        rintro _ T79 L79 X79 ⟨r79_r, rfl, Nq79, K79, P79_0⟩
        have KC79 : Keep h0 T79.heap [] := KC9.trans K79 all0
        have N79 := Fr.app N9 Nq79
        show OGo _ _ _ _ _ _ _ (T79.setTop (mkF m 202 #[.val (.int p0), .val (.int p1), .val (.int p2), .val (.int (own_c0 p0)), .val (.int (own_c1 p0)), .val (.int (own_c2 p0)), .val (.int (own_c3 p0)), .val (.ref b1), .val (.int (own_cn p2)), .val (.int (((p2.toUInt32 >>> ((3 : Int32) &&& 31).toUInt32).toInt32) &&& (3 : Int32))), .unset, .val (.int (-1 : Int32)), .unset, .unset] [(.ref r79_r)]))
        refine OGo.step (F' := T79.setTop (mkF m 292 #[.val (.int p0), .val (.int p1), .val (.int p2), .val (.int (own_c0 p0)), .val (.int (own_c1 p0)), .val (.int (own_c2 p0)), .val (.int (own_c3 p0)), .val (.ref b1), .val (.int (own_cn p2)), .val (.int (((p2.toUInt32 >>> ((3 : Int32) &&& 31).toUInt32).toInt32) &&& (3 : Int32))), .val (.ref r79_r), .val (.int (-1 : Int32)), .val (.int (0 : Int32)), .val (.int (-1 : Int32))] [(.ref r79_r), (.int (own_cn p2)), (.ref b1)])) (fun t kt => ?_) ?_
        · show Steps p.tables e below (T79.setTop (mkF m 202 #[.val (.int p0), .val (.int p1), .val (.int p2), .val (.int (own_c0 p0)), .val (.int (own_c1 p0)), .val (.int (own_c2 p0)), .val (.int (own_c3 p0)), .val (.ref b1), .val (.int (own_cn p2)), .val (.int (((p2.toUInt32 >>> ((3 : Int32) &&& 31).toUInt32).toInt32) &&& (3 : Int32))), .unset, .val (.int (-1 : Int32)), .unset, .unset] [(.ref r79_r)])) t
          refine XS.astore X79.here hx rfl (hb hby at_202) rfl rfl (l' := #[.val (.int p0), .val (.int p1), .val (.int p2), .val (.int (own_c0 p0)), .val (.int (own_c1 p0)), .val (.int (own_c2 p0)), .val (.int (own_c3 p0)), .val (.ref b1), .val (.int (own_cn p2)), .val (.int (((p2.toUInt32 >>> ((3 : Int32) &&& 31).toUInt32).toInt32) &&& (3 : Int32))), .val (.ref r79_r), .val (.int (-1 : Int32)), .unset, .unset]) rfl ?_
          refine XS.iconst X79.here hx rfl (hb hby at_204) ?_
          refine XS.istore X79.here hx rfl (hb hby at_205) rfl (l' := #[.val (.int p0), .val (.int p1), .val (.int p2), .val (.int (own_c0 p0)), .val (.int (own_c1 p0)), .val (.int (own_c2 p0)), .val (.int (own_c3 p0)), .val (.ref b1), .val (.int (own_cn p2)), .val (.int (((p2.toUInt32 >>> ((3 : Int32) &&& 31).toUInt32).toInt32) &&& (3 : Int32))), .val (.ref r79_r), .val (.int (-1 : Int32)), .val (.int (0 : Int32)), .unset]) rfl ?_
          refine XS.iconst X79.here hx rfl (hb hby at_207) ?_
          refine XS.istore X79.here hx rfl (hb hby at_208) rfl (l' := #[.val (.int p0), .val (.int p1), .val (.int p2), .val (.int (own_c0 p0)), .val (.int (own_c1 p0)), .val (.int (own_c2 p0)), .val (.int (own_c3 p0)), .val (.ref b1), .val (.int (own_cn p2)), .val (.int (((p2.toUInt32 >>> ((3 : Int32) &&& 31).toUInt32).toInt32) &&& (3 : Int32))), .val (.ref r79_r), .val (.int (-1 : Int32)), .val (.int (0 : Int32)), .val (.int (-1 : Int32))]) rfl ?_
          refine XS.iload X79.here hx rfl (hb hby at_210) rfl ?_
          refine XS.ifYes X79.here hx rfl (pc0 := 212) (pc' := 286) rfl (hb hby at_212) rfl ((if0 _ _).trans (teq (by decide : (0 : Int32) = (0 : Int32))).1) (by decide) (by decide) ?_
          refine XS.aload X79.here hx rfl (hb hby at_286) rfl rfl ?_
          refine XS.iload X79.here hx rfl (hb hby at_288) rfl ?_
          refine XS.aload X79.here hx rfl (hb hby at_290) rfl rfl ?_
          exact kt
        refine OGo.callS X79 hx hZ (y := (⟨"com/example/kette/kette/JsonObject", "walk", "([Ljava/lang/String;ILjava/lang/Object;)I"⟩ : MethodName)) hown (own_wd hw 28 rfl) (own_wd hw 29 rfl) (own_wd hw 30 rfl) (own_wd hw 31 rfl) (by decide) (rm6n l Z az hw [] b1 (own_cn p2) r79_r k1 b2_r b4_r b6_r b8_r T79.heap n0 (Nat.le_trans Z0 KC79.1) (V9.keep K79 nin0) (Z10_5.keep K79) (Z10_9.keep K79) (Z10_13.keep K79) (Z10_17.keep K79) P79_0 (own_cnt _)) (W := 0) (by decide) (by decide) (g := (mkF m 292 #[.val (.int p0), .val (.int p1), .val (.int p2), .val (.int (own_c0 p0)), .val (.int (own_c1 p0)), .val (.int (own_c2 p0)), .val (.int (own_c3 p0)), .val (.ref b1), .val (.int (own_cn p2)), .val (.int (((p2.toUInt32 >>> ((3 : Int32) &&& 31).toUInt32).toInt32) &&& (3 : Int32))), .val (.ref r79_r), .val (.int (-1 : Int32)), .val (.int (0 : Int32)), .val (.int (-1 : Int32))] [(.ref r79_r), (.int (own_cn p2)), (.ref b1)])) rfl (by rw [hml]; rfl) (argsL := [(.ref b1), (.int (own_cn p2)), (.ref r79_r)]) (rest := []) (lenOf pd_0_1 rfl) rfl (by show 2 * 0 + _ ≤ _; exact Nat.le_of_eq rfl) (hb hby at_292) rfl rfl (by decide) (by decide) ?_
        rintro _ T80 L80 X80 ⟨rfl, Nq80, e80⟩
        have N80 := Fr.app N79 Nq80
        show OGo _ _ _ _ _ _ _ (T80.setTop (mkF m 295 #[.val (.int p0), .val (.int p1), .val (.int p2), .val (.int (own_c0 p0)), .val (.int (own_c1 p0)), .val (.int (own_c2 p0)), .val (.int (own_c3 p0)), .val (.ref b1), .val (.int (own_cn p2)), .val (.int (((p2.toUInt32 >>> ((3 : Int32) &&& 31).toUInt32).toInt32) &&& (3 : Int32))), .val (.ref r79_r), .val (.int (-1 : Int32)), .val (.int (0 : Int32)), .val (.int (-1 : Int32))] [(.int (f6n (own_cn p2)))]))
        refine OGo.step (F' := T80.setTop (mkF m 305 #[.val (.int p0), .val (.int p1), .val (.int p2), .val (.int (own_c0 p0)), .val (.int (own_c1 p0)), .val (.int (own_c2 p0)), .val (.int (own_c3 p0)), .val (.ref b1), .val (.int (own_cn p2)), .val (.int (((p2.toUInt32 >>> ((3 : Int32) &&& 31).toUInt32).toInt32) &&& (3 : Int32))), .val (.ref r79_r), .val (.int (-1 : Int32)), .val (.int (0 : Int32)), .val (.int (-1 : Int32))] [(.int (1 : Int32))])) (fun t kt => ?_) ?_
        · show Steps p.tables e below (T80.setTop (mkF m 295 #[.val (.int p0), .val (.int p1), .val (.int p2), .val (.int (own_c0 p0)), .val (.int (own_c1 p0)), .val (.int (own_c2 p0)), .val (.int (own_c3 p0)), .val (.ref b1), .val (.int (own_cn p2)), .val (.int (((p2.toUInt32 >>> ((3 : Int32) &&& 31).toUInt32).toInt32) &&& (3 : Int32))), .val (.ref r79_r), .val (.int (-1 : Int32)), .val (.int (0 : Int32)), .val (.int (-1 : Int32))] [(.int (f6n (own_cn p2)))])) t
          refine XS.iload X80.here hx rfl (hb hby at_295) rfl ?_
          refine XS.icmpNo X80.here hx rfl (hb hby at_297) rfl (teq (own_n _)).2 ?_
          refine XS.iconst X80.here hx rfl (hb hby at_300) ?_
          refine XS.goto X80.here hx rfl (pc0 := 301) (pc' := 305) rfl (hb hby at_301) (by decide) (by decide) ?_
          exact kt
        refine OGo.retZ X80 hx hlk (t := .boolean) (z' := (1 : Int32)) hret (by simp) (hb hby at_305) rfl ?_ (by decide) (by decide)
        show Q0 Z p0 p1 p2 w_high w_cache w_COMPACT_STRINGS h0 n0 _ T80.heap _
        rw [e80]
        exact ⟨rfl, N80, KC79⟩
theorem own_cache {args : Array Value} {Z : State} {C n d : String} {a : Addr} {cl : Cell} {X : Jvm.Cond} (ev : (Term.static C n d).eval args Z none [] Z = some (.ref a)) (A : Arr Z Z.heap a cl (.object "java/lang/Integer")) (zz : cl.slots.size = 256)
    (q : (Jvm.Cond.all (Term.static C n d) (Jvm.Cond.and (Jvm.Cond.exactly (Term.elem (Term.static C n d) (Term.index 0)) "java/lang/Integer") X)).value args Z none Z [] = some true) : OCache Z Z.heap a := by
  have hat := A.fin (Vm.Alike.refl _)
  refine ⟨cl, A, zz, fun j hj => ?_⟩
  obtain ⟨q1, -⟩ := and_e (Cond.all_elim ev hat q j (by rw [zz]; exact hj))
  obtain ⟨r, cI, cell, k, e1, e2, e3, e4, e5, rfl, e7⟩ := Cond.exactly_spec (beq_iff_eq.mpr q1 : (Jvm.Cond.exactly (Term.elem (Term.static C n d) (Term.index 0)) "java/lang/Integer").holds args Z none Z [j] = true)
  have ev' : (Term.static C n d).eval args Z none [j] Z = some (.ref a) := by simpa [Term.eval] using ev
  have jx : (Term.index 0).eval args Z none [j] Z = some (.int j.toInt32) := rfl
  have ji : j.toInt32.toInt = j := len_toInt (by omega)
  have jn : ¬ j.toInt32 < 0 := by rw [Int32.lt_iff_toInt_lt, ji]; simp only [Int32.reduceToInt]; omega
  have jk : j.toInt32.toNatClampNeg = j := by simp only [Int32.toNatClampNeg, ji]; omega
  rw [elem_f ev' jx hat jn, jk] at e1
  exact ⟨r, e1, cell, k, e3, e2, e4, e5, e7⟩
theorem own_nz {args : Array Value} {Z : State} {t : Term} {x : Int32} (ev : t.eval args Z none [] Z = some (.int x)) (q : (Jvm.Cond.not (Jvm.Cond.eq t (Term.int (0 : Int32)))).before args Z = true) : ¬ (x = (0 : Int32)) := by
  have e2 : (Term.int (0 : Int32)).eval args Z none [] Z = some (.int 0) := rfl
  rw [Cond.before_iff] at q
  simp only [Cond.value, ev, e2] at q
  intro h; subst h; simp at q
set_option maxRecDepth 65536 in
set_option maxHeartbeats 40000000 in
theorem comes_1 {Post : Tables → Env → Array Value → State → Outcome → State → Prop} (hpost : ∀ tb e args s v u, (limb_1_1.after args s (.returned v) u = true ∧ limb_1_2.after args s (.returned v) u = true ∧ True) → FrameEnd s (.returned v) u (Jvm.fieldLocs frame_1_writes args s ++ Jvm.arrayLocs frame_1_arrays args s ++ Jvm.staticLocs frame_1_statics s) 32 128 → Post tb e args s (.returned v) u) :
    ArmFor flags0 classFile x code maxLocals ret World_1 tables_1 room_1 Calls_1 rest_1 Pre_1 Post := by
  intro l hfl _ _ p e ha hc hk s m args below hf hA hF happ hP
  obtain ⟨hcalls, hrest, hpre⟩ := hP
  obtain ⟨-, -, -, hnamed, -, -, -, hat⟩ := (Spec.applies_iff hf).mp happ
  obtain ⟨hg, hn⟩ := and_e (Cond.before_iff.mp (show (Jvm.Cond.and given_1 narrow_1).before args s = true from hpre))
  obtain ⟨gc, gr0⟩ := and_e hg
  obtain ⟨ga0, gr1⟩ := and_e gr0
  obtain ⟨ga1, gr2⟩ := and_e gr1
  have ga2 := gr2
  obtain ⟨w0, w1, w2, rfl⟩ : ∃ w0 w1 w2 : Value, args = #[w0, w1, w2] := by
    have hs : args.size = 3 := by simpa [Cond.value, given_1] using gc
    obtain ⟨L⟩ := args
    match L, hs with
    | [w0, w1, w2], _ => exact ⟨w0, w1, w2, rfl⟩
  have hw := fun d (hd : d ∈ tables_1) => atoms_spec (ws := Jvm.Cond.code x code maxLocals ret :: tables_1) hat d (List.mem_cons_of_mem _ hd)
  have hfit : Fit s := fun {y c} hc i hi => by
    obtain ⟨ha, rfl⟩ := Array.getElem?_eq_some_iff.mp hc
    have q := List.all_eq_true.mp ((Array.all_eq_true_iff_forall_mem.mp hF) _ (Array.getElem_mem ha)) i (List.mem_range.mpr hi)
    simpa [Array.getElem?_eq_getElem hi] using q
  obtain ⟨hsets, hown0⟩ := atoms_of _ (rest_1_c_eq ▸ (show rest_1_c.before _ s = true from hrest))
  obtain ⟨i0, ei0⟩ := is_v ga0
  obtain rfl : w0 = (.int i0) := Option.some.inj ei0
  obtain ⟨i1, ei1⟩ := is_v ga1
  obtain rfl : w1 = (.int i1) := Option.some.inj ei1
  obtain ⟨i2, ei2⟩ := is_v ga2
  obtain rfl : w2 = (.int i2) := Option.some.inj ei2
  have hs := fun (i : Nat) {d : Jvm.Cond} (q : jdkStatics_1[i]? = some d) => hsets d (List.mem_of_getElem? q)
  obtain ⟨w_COMPACT_STRINGS, evC⟩ := is_v (Cond.before_iff.mp (hs 1 rfl))
  have S_String_COMPACT_STRINGS : Sta s s.heap "java/lang/String" "COMPACT_STRINGS" "Z" (.int w_COMPACT_STRINGS) := Sta.start evC (Or.inl (hs 0 rfl))
  have hC : ¬ (w_COMPACT_STRINGS = (0 : Int32)) := own_nz evC (hs 2 rfl)
  have evH := own_eqi (Cond.before_iff.mp (hs 12 rfl))
  have S_high : Sta s s.heap "java/lang/Integer$IntegerCache" "high" "I" (.int (127 : Int32)) := Sta.start evH (Or.inl (hs 10 rfl))
  obtain ⟨w_cache, evC2⟩ := arr_v (Cond.before_iff.mp (hs 13 rfl))
  have S_cache : Sta s s.heap "java/lang/Integer$IntegerCache" "cache" "[Ljava/lang/Integer;" (.ref w_cache) := Sta.start evC2 (Or.inr ⟨(own_wd hw 63 rfl), hs 11 rfl⟩)
  obtain ⟨clC, AC⟩ := Arr.start evC2 (Cond.before_iff.mp (hs 13 rfl))
  have atC := AC.fin (Vm.Alike.refl _)
  obtain ⟨z1, z2⟩ := own_lenz evC2 atC (own_eqi (Cond.before_iff.mp (hs 15 rfl)))
  have zz : clC.slots.size = 256 := by have := len_toInt z1; rw [z2] at this; simp only [Int32.reduceToInt] at this; omega
  have Ca : OCache s s.heap w_cache := own_cache evC2 AC zz (Cond.before_iff.mp (hs 16 rfl))
  have hHi : (127 : Int32) = (127 : Int32) := rfl
  obtain ⟨n, o, h1, h2, h3, _, L, rfl, ⟨hv, N, -⟩, hq⟩ := rm0 l s _ hw tables_1 i0 i1 i2 (127 : Int32) w_cache w_COMPACT_STRINGS s.heap s.heap.size (Nat.le_refl _) S_high S_cache hHi Ca hC S_String_COMPACT_STRINGS p e ha hc hk s m _ below hf ((Spec.applies_iff_loose hf).mp happ).1 ⟨rfl, State.Warmed39.refl s, rfl⟩ trivial
  subst hv
  refine ⟨n, _, h1, h2, h3, hpost _ _ _ _ _ _ ⟨Cond.after_iff.mpr rfl, Cond.after_iff.mpr (eq_i res_at (Term.int_eval (1)) rfl), trivial⟩ ⟨hq.1, hq.2.1, (hq.2.2.sift fun y hy => Or.inr (N y hy)).mono (by decide) (by decide)⟩⟩
theorem main_1_1 : Claimed_1_1 := comes_1 fun _ _ _ _ _ _ h hF => ⟨h.1, hF⟩
theorem main_1_2 : Claimed_1_2 := comes_1 fun _ _ _ _ _ _ h hF => ⟨h.2.1, hF⟩
end Jvm.Pilot.@@N@@
namespace Jvm.Pilot.@@N@@
open Jvm Jvm.ClassFile Sem Op Lib Jvm.Free Jvm.Stand Jvm.Pilot.@@N@@.Jvm.D
/-! MADE BY PROGRAM (witnessworld.py) out of the Statement's table words and the real class files: 24 classes; the members and pool entries that the words name. The judged class is class 1, her method 1. -/
namespace start1
open Jvm.ClassFile
def u (s : String) : CpInfo := .utf8 (stringToUtf16 s)
/-- a pool by its gaps: so many unusable entries, then the entry; so many at the end -/
def gap : Nat → List CpInfo → List CpInfo
  | 0, r => r
  | n + 1, r => .unusable :: gap n r
def poolList (es : List (Nat × CpInfo)) (last : Nat) : List CpInfo := es.foldr (fun e r => gap e.1 (e.2 :: r)) (gap last [])
def pool (es : List (Nat × CpInfo)) (last : Nat) : Array CpInfo := ⟨poolList es last⟩
def fileOf (pool : Array CpInfo) (this : Nat) (attrs : Array Attribute := #[]) (ms : Array MethodInfo := #[]) (fl : Nat := 33) (sup : Nat := 0) (ifs : Array Nat := #[]) (fds : Array FieldInfo := #[]) : ClassFile where
  minorVersion := 0
  majorVersion := 65
  constantPool := pool
  accessFlags := fl
  thisClass := this
  superClass := sup
  interfaces := ifs
  fields := fds
  methods := ms
  attributes := attrs
def plain (name : String) (sup : Option ClassId) : Class where
  name := name
  kind := .ordinary
  loader := none
  accessFlags := 33
  super := sup
  interfaces := #[]
  cf := none
  fields := #[]
  methods := #[]
  instanceTypes := #[]
  staticTypes := #[]
  resolved := #[]
  callSites := []
  init := .initialized
  statics := none
  mirror := none

def pool0 : Array CpInfo := pool [(5, u "<init>"), (0, u "()V"), (1, .class_ 10), (1, u "java/lang/Object")] 113

def k0c0 : Code := { maxStack := 0, maxLocals := 1, code := object_method_1_code, exceptionTable := #[], attributes := #[] }
def k0m0 : Method := { name := "<init>", desc := "()V", sig := { parameters := [], returnType := none }, accessFlags := 1, code := some k0c0 }
/-- java/lang/Object -/
def k0 : Class := { plain "java/lang/Object" none with
  accessFlags := 33
  interfaces := #[]
  cf := some (fileOf pool0 8 #[] #[{ accessFlags := 1, nameIndex := 5, descriptorIndex := 6, attributes := #[] }] 33 0 #[] #[])
  fields := #[]
  methods := #[k0m0]
  instanceTypes := #[]
  staticTypes := #[]
  resolved := Array.replicate 124 none
  statics := none }

def pool1 : Array CpInfo := pool [(2, .class_ 4), (1, u "java/lang/Object"), (0, u "<init>"), (0, u "()V"), (0, .class_ 8), (0, u "java/lang/String"), (0, .methodref 7 10), (0, .nameAndType 11 12), (0, u "valueOf"), (0, u "(C)Ljava/lang/String;"), (0, .methodref 14 15), (0, .class_ 16), (0, .nameAndType 11 17), (0, u "java/lang/Integer"), (0, u "(I)Ljava/lang/Integer;"), (0, .methodref 19 20), (0, .class_ 21), (0, .nameAndType 22 23), (0, u "com/example/kette/kette/JsonObject"), (0, u "walk"), (0, u "([Ljava/lang/String;ILjava/lang/Object;)I"), (0, .class_ 25), (0, u "com/example/kette/kette/JsonObjectWalkPinLaw"), (2, u "law"), (0, u "(III)Z")] 5

def k1m0 : Method := { name := "<init>", desc := "()V", sig := { parameters := [], returnType := none }, accessFlags := 1, code := none }
def k1c1 : Code := { maxStack := 3, maxLocals := 14, code := code, exceptionTable := #[], attributes := #[] }
def k1m1 : Method := { name := "law", desc := "(III)Z", sig := { parameters := [.int, .int, .int], returnType := some .boolean }, accessFlags := 9, code := some k1c1 }
/-- com/example/kette/kette/JsonObjectWalkPinLaw -/
def k1 : Class := { plain "com/example/kette/kette/JsonObjectWalkPinLaw" (some 0) with
  accessFlags := 49
  interfaces := #[]
  cf := some (fileOf pool1 24 #[] #[{ accessFlags := 1, nameIndex := 5, descriptorIndex := 6, attributes := #[] }, { accessFlags := 9, nameIndex := 28, descriptorIndex := 29, attributes := #[] }] 49 2 #[] #[])
  fields := #[]
  methods := #[k1m0, k1m1]
  instanceTypes := #[]
  staticTypes := #[]
  resolved := Array.replicate 35 none
  statics := none }

def pool2 : Array CpInfo := pool [(1, .class_ 2), (0, u "java/io/Serializable"), (0, .class_ 4), (0, u "java/lang/Object")] 2

/-- java/io/Serializable -/
def k2 : Class := { plain "java/io/Serializable" (some 0) with
  accessFlags := 1537
  interfaces := #[]
  cf := some (fileOf pool2 1 #[] #[] 1537 3 #[] #[])
  fields := #[]
  methods := #[]
  instanceTypes := #[]
  staticTypes := #[]
  resolved := Array.replicate 7 none
  statics := none }

def pool3 : Array CpInfo := pool [(1, .class_ 2), (0, u "java/lang/Comparable"), (0, .class_ 4), (0, u "java/lang/Object")] 7

/-- java/lang/Comparable -/
def k3 : Class := { plain "java/lang/Comparable" (some 0) with
  accessFlags := 1537
  interfaces := #[]
  cf := some (fileOf pool3 1 #[] #[] 1537 3 #[] #[])
  fields := #[]
  methods := #[]
  instanceTypes := #[]
  staticTypes := #[]
  resolved := Array.replicate 12 none
  statics := none }

def pool4 : Array CpInfo := pool [(2, .class_ 4), (1, u "java/lang/CharSequence"), (42, .class_ 48), (0, u "java/lang/CharSequence$1CodePointIterator"), (10, .class_ 60), (0, u "java/lang/CharSequence$1CharIterator"), (5, .class_ 67), (0, u "java/lang/Object")] 63

/-- java/lang/CharSequence -/
def k4 : Class := { plain "java/lang/CharSequence" (some 0) with
  accessFlags := 1537
  interfaces := #[]
  cf := some (fileOf pool4 2 #[.nestMembers #[47, 59]] #[] 1537 66 #[] #[])
  fields := #[]
  methods := #[]
  instanceTypes := #[]
  staticTypes := #[]
  resolved := Array.replicate 131 none
  statics := none }

def pool5 : Array CpInfo := pool [(1, .class_ 2), (0, u "java/lang/constant/Constable"), (0, .class_ 4), (0, u "java/lang/Object")] 6

/-- java/lang/constant/Constable -/
def k5 : Class := { plain "java/lang/constant/Constable" (some 0) with
  accessFlags := 1537
  interfaces := #[]
  cf := some (fileOf pool5 1 #[] #[] 1537 3 #[] #[])
  fields := #[]
  methods := #[]
  instanceTypes := #[]
  staticTypes := #[]
  resolved := Array.replicate 11 none
  statics := none }

def pool6 : Array CpInfo := pool [(1, .class_ 2), (0, u "java/lang/constant/ConstantDesc"), (0, .class_ 4), (0, u "java/lang/Object")] 32

/-- java/lang/constant/ConstantDesc -/
def k6 : Class := { plain "java/lang/constant/ConstantDesc" (some 0) with
  accessFlags := 1537
  interfaces := #[]
  cf := some (fileOf pool6 1 #[] #[] 1537 3 #[] #[])
  fields := #[]
  methods := #[]
  instanceTypes := #[]
  staticTypes := #[]
  resolved := Array.replicate 37 none
  statics := none }

def pool7 : Array CpInfo := pool [(1, .methodref 2 3), (0, .class_ 4), (0, .nameAndType 5 6), (0, u "java/lang/Object"), (0, u "<init>"), (0, u "()V"), (2, .fieldref 10 11), (0, .class_ 12), (0, .nameAndType 13 14), (0, u "java/lang/String"), (0, u "value"), (0, u "[B"), (0, .fieldref 10 16), (0, .nameAndType 17 18), (0, u "coder"), (0, u "B"), (2, u "hash"), (0, u "I"), (2, u "hashIsZero"), (0, u "Z"), (11, .fieldref 10 39), (0, .nameAndType 40 26), (0, u "COMPACT_STRINGS"), (12, u "toBytes"), (53, .class_ 109), (1, u "java/lang/StringLatin1"), (99, .methodref 10 210), (0, .nameAndType 5 211), (0, u "([BB)V"), (157, u "(C)Z"), (171, .methodref 107 542), (0, .nameAndType 543 544), (0, u "equals"), (0, u "([B[B)Z"), (28, u "(Ljava/lang/Object;)Z"), (1, .class_ 576), (0, u "java/lang/CharSequence"), (22, u "CASE_INSENSITIVE_ORDER"), (0, u "Ljava/util/Comparator;"), (181, u "valueOf"), (0, u "(C)Ljava/lang/String;"), (231, .methodref 107 1016), (0, .nameAndType 1017 369), (0, u "canEncode"), (0, .methodref 107 1019), (0, .nameAndType 53 1020), (0, u "(C)[B"), (80, u "serialPersistentFields"), (0, u "[Ljava/io/ObjectStreamField;"), (0, .class_ 1104), (0, u "java/lang/String$CaseInsensitiveComparator"), (1, .class_ 1107), (0, u "java/io/Serializable"), (0, .class_ 1109), (0, u "java/lang/Comparable"), (0, .class_ 1111), (0, u "java/lang/constant/Constable"), (0, .class_ 1113), (0, u "java/lang/constant/ConstantDesc"), (2, u "serialVersionUID"), (0, u "J"), (3, u "REPL"), (0, u "C"), (2, u "LATIN1"), (1, u "UTF16")] 323

def k7m0 : Method := { name := "<init>", desc := "()V", sig := { parameters := [], returnType := none }, accessFlags := 1, code := none }
def k7c1 : Code := { maxStack := 2, maxLocals := 3, code := jdk_42_method_66_code, exceptionTable := #[], attributes := #[] }
def k7m1 : Method := { name := "equals", desc := "(Ljava/lang/Object;)Z", sig := { parameters := [(.object "java/lang/Object")], returnType := some .boolean }, accessFlags := 1, code := some k7c1 }
def k7c2 : Code := { maxStack := 4, maxLocals := 1, code := jdk_42_method_139_code, exceptionTable := #[], attributes := #[] }
def k7m2 : Method := { name := "valueOf", desc := "(C)Ljava/lang/String;", sig := { parameters := [.char], returnType := some (.object "java/lang/String") }, accessFlags := 9, code := some k7c2 }
def k7c3 : Code := { maxStack := 2, maxLocals := 3, code := jdk_42_method_151_code, exceptionTable := #[], attributes := #[] }
def k7m3 : Method := { name := "<init>", desc := "([BB)V", sig := { parameters := [(.array .byte), .byte], returnType := none }, accessFlags := 0, code := some k7c3 }
/-- java/lang/String -/
def k7 : Class := { plain "java/lang/String" (some 0) with
  accessFlags := 49
  interfaces := #[2, 3, 4, 5, 6]
  cf := some (fileOf pool7 10 #[.nestMembers #[1103]] #[{ accessFlags := 1, nameIndex := 5, descriptorIndex := 6, attributes := #[] }, { accessFlags := 1, nameIndex := 543, descriptorIndex := 573, attributes := #[] }, { accessFlags := 9, nameIndex := 782, descriptorIndex := 783, attributes := #[] }, { accessFlags := 0, nameIndex := 5, descriptorIndex := 211, attributes := #[] }] 49 2 #[1106, 1108, 575, 1110, 1112] #[{ accessFlags := 18, nameIndex := 13, descriptorIndex := 14, attributes := #[] }, { accessFlags := 18, nameIndex := 17, descriptorIndex := 18, attributes := #[] }, { accessFlags := 2, nameIndex := 21, descriptorIndex := 22, attributes := #[] }, { accessFlags := 2, nameIndex := 25, descriptorIndex := 26, attributes := #[] }, { accessFlags := 26, nameIndex := 1116, descriptorIndex := 1117, attributes := #[] }, { accessFlags := 24, nameIndex := 40, descriptorIndex := 26, attributes := #[] }, { accessFlags := 26, nameIndex := 1101, descriptorIndex := 1102, attributes := #[] }, { accessFlags := 26, nameIndex := 1121, descriptorIndex := 1122, attributes := #[] }, { accessFlags := 25, nameIndex := 599, descriptorIndex := 600, attributes := #[] }, { accessFlags := 24, nameIndex := 1125, descriptorIndex := 18, attributes := #[] }, { accessFlags := 24, nameIndex := 1127, descriptorIndex := 18, attributes := #[] }])
  fields := #[{ name := "value", type := (.array .byte), accessFlags := 18, slot := 0, constantValue := 0 }, { name := "coder", type := .byte, accessFlags := 18, slot := 1, constantValue := 0 }, { name := "hash", type := .int, accessFlags := 2, slot := 2, constantValue := 0 }, { name := "hashIsZero", type := .boolean, accessFlags := 2, slot := 3, constantValue := 0 }, { name := "serialVersionUID", type := .long, accessFlags := 26, slot := 0, constantValue := 0 }, { name := "COMPACT_STRINGS", type := .boolean, accessFlags := 24, slot := 1, constantValue := 0 }, { name := "serialPersistentFields", type := (.array (.object "java/io/ObjectStreamField")), accessFlags := 26, slot := 2, constantValue := 0 }, { name := "REPL", type := .char, accessFlags := 26, slot := 3, constantValue := 0 }, { name := "CASE_INSENSITIVE_ORDER", type := (.object "java/util/Comparator"), accessFlags := 25, slot := 4, constantValue := 0 }, { name := "LATIN1", type := .byte, accessFlags := 24, slot := 5, constantValue := 0 }, { name := "UTF16", type := .byte, accessFlags := 24, slot := 6, constantValue := 0 }]
  methods := #[k7m0, k7m1, k7m2, k7m3]
  instanceTypes := #[(.array .byte), .byte, .int, .boolean]
  staticTypes := #[.long, .boolean, (.array (.object "java/io/ObjectStreamField")), .char, (.object "java/util/Comparator"), .byte, .byte]
  resolved := Array.replicate 1451 none
  statics := some 0 }

def pool8 : Array CpInfo := pool [(4, .class_ 6), (1, u "java/lang/Object"), (0, u "<init>"), (0, u "()V"), (5, .class_ 16), (1, u "java/lang/StringLatin1"), (73, u "canEncode"), (14, u "(C)Z"), (15, u "$assertionsDisabled"), (0, u "Z"), (98, .class_ 223), (1, u "java/lang/StringLatin1$LinesSpliterator"), (57, u "equals"), (0, u "([B[B)Z"), (97, u "toBytes"), (1, u "(C)[B"), (7, .class_ 391), (0, u "java/lang/StringLatin1$CharsSpliterator")] 3

def k8m0 : Method := { name := "<init>", desc := "()V", sig := { parameters := [], returnType := none }, accessFlags := 0, code := none }
def k8c1 : Code := { maxStack := 2, maxLocals := 1, code := jdk_43_method_3_code, exceptionTable := #[], attributes := #[] }
def k8m1 : Method := { name := "canEncode", desc := "(C)Z", sig := { parameters := [.char], returnType := some .boolean }, accessFlags := 9, code := some k8c1 }
def k8c2 : Code := { maxStack := 3, maxLocals := 3, code := jdk_43_method_13_code, exceptionTable := #[], attributes := #[] }
def k8m2 : Method := { name := "equals", desc := "([B[B)Z", sig := { parameters := [(.array .byte), (.array .byte)], returnType := some .boolean }, accessFlags := 9, code := some k8c2 }
def k8c3 : Code := { maxStack := 4, maxLocals := 1, code := jdk_43_method_46_code, exceptionTable := #[], attributes := #[] }
def k8m3 : Method := { name := "toBytes", desc := "(C)[B", sig := { parameters := [.char], returnType := some (.array .byte) }, accessFlags := 9, code := some k8c3 }
/-- java/lang/StringLatin1 -/
def k8 : Class := { plain "java/lang/StringLatin1" (some 0) with
  accessFlags := 48
  interfaces := #[]
  cf := some (fileOf pool8 14 #[.nestMembers #[390, 221]] #[{ accessFlags := 0, nameIndex := 7, descriptorIndex := 8, attributes := #[] }, { accessFlags := 9, nameIndex := 90, descriptorIndex := 105, attributes := #[] }, { accessFlags := 9, nameIndex := 281, descriptorIndex := 282, attributes := #[] }, { accessFlags := 9, nameIndex := 380, descriptorIndex := 382, attributes := #[] }] 48 4 #[] #[{ accessFlags := 4120, nameIndex := 121, descriptorIndex := 122, attributes := #[] }])
  fields := #[{ name := "$assertionsDisabled", type := .boolean, accessFlags := 4120, slot := 0, constantValue := 0 }]
  methods := #[k8m0, k8m1, k8m2, k8m3]
  instanceTypes := #[]
  staticTypes := #[.boolean]
  resolved := Array.replicate 395 none
  statics := none }

def pool9 : Array CpInfo := pool [(2, .class_ 4), (1, u "java/util/Map"), (31, .class_ 37), (0, u "java/util/Map$Entry"), (55, .class_ 94), (0, u "java/lang/Object")] 168

/-- java/util/Map -/
def k9 : Class := { plain "java/util/Map" (some 0) with
  accessFlags := 1537
  interfaces := #[]
  cf := some (fileOf pool9 2 #[.nestMembers #[36]] #[] 1537 93 #[] #[])
  fields := #[]
  methods := #[]
  instanceTypes := #[]
  staticTypes := #[]
  resolved := Array.replicate 263 none
  statics := none }

def pool10 : Array CpInfo := pool [(2, .class_ 4), (1, u "java/lang/Object"), (0, u "<init>"), (0, u "()V"), (1, .class_ 10), (1, u "java/util/AbstractMap"), (42, .class_ 54), (0, u "java/util/Map"), (9, u "keySet"), (0, u "Ljava/util/Set;"), (0, .class_ 67), (0, u "java/util/AbstractMap$1"), (5, u "values"), (0, u "Ljava/util/Collection;"), (0, .class_ 76), (0, u "java/util/AbstractMap$2"), (104, .class_ 182), (0, u "java/util/AbstractMap$ViewCollection"), (0, .class_ 184), (0, u "java/util/AbstractMap$SimpleImmutableEntry"), (0, .class_ 186), (0, u "java/util/AbstractMap$SimpleEntry"), (0, .class_ 188), (0, u "java/util/AbstractMap$2$1"), (0, .class_ 190), (0, u "java/util/AbstractMap$1$1")] 5

def k10m0 : Method := { name := "<init>", desc := "()V", sig := { parameters := [], returnType := none }, accessFlags := 4, code := none }
/-- java/util/AbstractMap -/
def k10 : Class := { plain "java/util/AbstractMap" (some 0) with
  accessFlags := 1057
  interfaces := #[9]
  cf := some (fileOf pool10 8 #[.nestMembers #[181, 183, 185, 75, 187, 66, 189]] #[{ accessFlags := 4, nameIndex := 5, descriptorIndex := 6, attributes := #[] }] 1057 2 #[53] #[{ accessFlags := 128, nameIndex := 64, descriptorIndex := 65, attributes := #[] }, { accessFlags := 128, nameIndex := 73, descriptorIndex := 74, attributes := #[] }])
  fields := #[{ name := "keySet", type := (.object "java/util/Set"), accessFlags := 128, slot := 0, constantValue := 0 }, { name := "values", type := (.object "java/util/Collection"), accessFlags := 128, slot := 1, constantValue := 0 }]
  methods := #[k10m0]
  instanceTypes := #[(.object "java/util/Set"), (.object "java/util/Collection")]
  staticTypes := #[]
  resolved := Array.replicate 196 none
  statics := none }

def pool11 : Array CpInfo := pool [(2, .class_ 4), (1, u "com/example/kette/kette/JsonObject"), (3, .class_ 10), (1, u "java/util/AbstractMap"), (3, u "names"), (0, u "[Ljava/lang/String;"), (2, u "places"), (0, u "Lcom/example/kette/kette/Places;"), (2, u "values"), (0, u "[Ljava/lang/Object;"), (0, .methodref 25 26), (0, .class_ 27), (0, .nameAndType 28 29), (0, u "java/lang/String"), (0, u "equals"), (0, u "(Ljava/lang/Object;)Z"), (18, .class_ 49), (0, u "com/example/kette/kette/JsonObject$1"), (5, u "walk"), (0, u "([Ljava/lang/String;ILjava/lang/Object;)I"), (3, u "WALKED"), (0, u "I"), (22, .class_ 85), (0, u "com/example/kette/kette/JsonObject$Members")] 7

def k11c0 : Code := { maxStack := 2, maxLocals := 5, code := prog_30_method_4_code, exceptionTable := #[], attributes := #[] }
def k11m0 : Method := { name := "walk", desc := "([Ljava/lang/String;ILjava/lang/Object;)I", sig := { parameters := [(.array (.object "java/lang/String")), .int, (.object "java/lang/Object")], returnType := some .int }, accessFlags := 8, code := some k11c0 }
/-- com/example/kette/kette/JsonObject -/
def k11 : Class := { plain "com/example/kette/kette/JsonObject" (some 10) with
  accessFlags := 32
  interfaces := #[]
  cf := some (fileOf pool11 2 #[.nestMembers #[84, 48]] #[{ accessFlags := 8, nameIndex := 55, descriptorIndex := 56, attributes := #[] }] 32 8 #[] #[{ accessFlags := 24, nameIndex := 60, descriptorIndex := 61, attributes := #[] }, { accessFlags := 18, nameIndex := 14, descriptorIndex := 15, attributes := #[] }, { accessFlags := 18, nameIndex := 18, descriptorIndex := 19, attributes := #[] }, { accessFlags := 18, nameIndex := 22, descriptorIndex := 23, attributes := #[] }])
  fields := #[{ name := "WALKED", type := .int, accessFlags := 24, slot := 0, constantValue := 0 }, { name := "names", type := (.array (.object "java/lang/String")), accessFlags := 18, slot := 2, constantValue := 0 }, { name := "places", type := (.object "com/example/kette/kette/Places"), accessFlags := 18, slot := 3, constantValue := 0 }, { name := "values", type := (.array (.object "java/lang/Object")), accessFlags := 18, slot := 4, constantValue := 0 }]
  methods := #[k11m0]
  instanceTypes := #[(.object "java/util/Set"), (.object "java/util/Collection"), (.array (.object "java/lang/String")), (.object "com/example/kette/kette/Places"), (.array (.object "java/lang/Object"))]
  staticTypes := #[.int]
  resolved := Array.replicate 93 none
  statics := none }

def pool12 : Array CpInfo := pool [(1, .methodref 2 3), (0, .class_ 4), (0, .nameAndType 5 6), (0, u "java/lang/Object"), (0, u "<init>"), (0, u "()V"), (1, .class_ 10), (1, u "java/lang/Number"), (2, .class_ 14), (0, u "java/io/Serializable"), (0, u "serialVersionUID"), (0, u "J")] 20

def k12c0 : Code := { maxStack := 1, maxLocals := 1, code := jdk_18_method_1_code, exceptionTable := #[], attributes := #[] }
def k12m0 : Method := { name := "<init>", desc := "()V", sig := { parameters := [], returnType := none }, accessFlags := 1, code := some k12c0 }
/-- java/lang/Number -/
def k12 : Class := { plain "java/lang/Number" (some 0) with
  accessFlags := 1057
  interfaces := #[2]
  cf := some (fileOf pool12 8 #[] #[{ accessFlags := 1, nameIndex := 5, descriptorIndex := 6, attributes := #[] }] 1057 2 #[13] #[{ accessFlags := 26, nameIndex := 15, descriptorIndex := 16, attributes := #[] }])
  fields := #[{ name := "serialVersionUID", type := .long, accessFlags := 26, slot := 0, constantValue := 0 }]
  methods := #[k12m0]
  instanceTypes := #[]
  staticTypes := #[.long]
  resolved := Array.replicate 37 none
  statics := none }

def pool13 : Array CpInfo := pool [(1, .class_ 2), (0, u "java/lang/Integer"), (16, u "digits"), (0, u "[C"), (46, u "<init>"), (17, u "DigitOnes"), (0, u "[B"), (2, u "DigitTens"), (10, .nameAndType 67 101), (0, u "()V"), (85, u "valueOf"), (0, u "(I)Ljava/lang/Integer;"), (0, .class_ 190), (0, u "java/lang/Integer$IntegerCache"), (0, .fieldref 189 192), (0, .nameAndType 193 194), (0, u "high"), (0, u "I"), (0, .fieldref 189 196), (0, .nameAndType 197 198), (0, u "cache"), (0, u "[Ljava/lang/Integer;"), (0, .methodref 1 200), (0, .nameAndType 67 201), (0, u "(I)V"), (0, .methodref 203 100), (0, .class_ 204), (0, u "java/lang/Number"), (0, .fieldref 1 206), (0, .nameAndType 207 194), (0, u "value"), (94, u "TYPE"), (0, u "Ljava/lang/Class;"), (0, .class_ 305), (0, u "java/lang/Comparable"), (0, .class_ 307), (0, u "java/lang/constant/Constable"), (0, .class_ 309), (0, u "java/lang/constant/ConstantDesc"), (0, u "MIN_VALUE"), (1, u "MAX_VALUE"), (3, u "SIZE"), (1, u "BYTES"), (1, u "serialVersionUID"), (0, u "J")] 131

def k13c0 : Code := { maxStack := 3, maxLocals := 1, code := jdk_33_method_22_code, exceptionTable := #[], attributes := #[] }
def k13m0 : Method := { name := "valueOf", desc := "(I)Ljava/lang/Integer;", sig := { parameters := [.int], returnType := some (.object "java/lang/Integer") }, accessFlags := 9, code := some k13c0 }
def k13c1 : Code := { maxStack := 2, maxLocals := 2, code := jdk_33_method_23_code, exceptionTable := #[], attributes := #[] }
def k13m1 : Method := { name := "<init>", desc := "(I)V", sig := { parameters := [.int], returnType := none }, accessFlags := 1, code := some k13c1 }
/-- java/lang/Integer -/
def k13 : Class := { plain "java/lang/Integer" (some 12) with
  accessFlags := 49
  interfaces := #[3, 5, 6]
  cf := some (fileOf pool13 1 #[.nestMembers #[189]] #[{ accessFlags := 9, nameIndex := 187, descriptorIndex := 188, attributes := #[] }, { accessFlags := 1, nameIndex := 67, descriptorIndex := 201, attributes := #[] }] 49 203 #[304, 306, 308] #[{ accessFlags := 25, nameIndex := 310, descriptorIndex := 194, attributes := #[] }, { accessFlags := 25, nameIndex := 312, descriptorIndex := 194, attributes := #[] }, { accessFlags := 25, nameIndex := 302, descriptorIndex := 303, attributes := #[] }, { accessFlags := 24, nameIndex := 19, descriptorIndex := 20, attributes := #[] }, { accessFlags := 24, nameIndex := 89, descriptorIndex := 86, attributes := #[] }, { accessFlags := 24, nameIndex := 85, descriptorIndex := 86, attributes := #[] }, { accessFlags := 18, nameIndex := 207, descriptorIndex := 194, attributes := #[] }, { accessFlags := 25, nameIndex := 316, descriptorIndex := 194, attributes := #[] }, { accessFlags := 25, nameIndex := 318, descriptorIndex := 194, attributes := #[] }, { accessFlags := 26, nameIndex := 320, descriptorIndex := 321, attributes := #[] }])
  fields := #[{ name := "MIN_VALUE", type := .int, accessFlags := 25, slot := 0, constantValue := 0 }, { name := "MAX_VALUE", type := .int, accessFlags := 25, slot := 1, constantValue := 0 }, { name := "TYPE", type := (.object "java/lang/Class"), accessFlags := 25, slot := 2, constantValue := 0 }, { name := "digits", type := (.array .char), accessFlags := 24, slot := 3, constantValue := 0 }, { name := "DigitTens", type := (.array .byte), accessFlags := 24, slot := 4, constantValue := 0 }, { name := "DigitOnes", type := (.array .byte), accessFlags := 24, slot := 5, constantValue := 0 }, { name := "value", type := .int, accessFlags := 18, slot := 0, constantValue := 0 }, { name := "SIZE", type := .int, accessFlags := 25, slot := 6, constantValue := 0 }, { name := "BYTES", type := .int, accessFlags := 25, slot := 7, constantValue := 0 }, { name := "serialVersionUID", type := .long, accessFlags := 26, slot := 8, constantValue := 0 }]
  methods := #[k13m0, k13m1]
  instanceTypes := #[.int]
  staticTypes := #[.int, .int, (.object "java/lang/Class"), (.array .char), (.array .byte), (.array .byte), .int, .int, .long]
  resolved := Array.replicate 453 none
  statics := none }

def pool14 : Array CpInfo := pool [(2, .class_ 4), (1, u "java/lang/Object"), (0, u "<init>"), (0, u "()V"), (0, .class_ 8), (0, u "java/lang/Integer"), (7, .class_ 18), (1, u "java/lang/Integer$IntegerCache"), (0, u "$assertionsDisabled"), (0, u "Z"), (26, u "high"), (0, u "I"), (8, u "archivedCache"), (0, u "[Ljava/lang/Integer;"), (12, u "cache"), (0, u "low")] 27

def k14m0 : Method := { name := "<init>", desc := "()V", sig := { parameters := [], returnType := none }, accessFlags := 2, code := none }
/-- java/lang/Integer$IntegerCache -/
def k14 : Class := { plain "java/lang/Integer$IntegerCache" (some 0) with
  accessFlags := 48
  interfaces := #[]
  cf := some (fileOf pool14 16 #[.nestHost 7] #[{ accessFlags := 2, nameIndex := 5, descriptorIndex := 6, attributes := #[] }] 48 2 #[] #[{ accessFlags := 24, nameIndex := 72, descriptorIndex := 48, attributes := #[] }, { accessFlags := 24, nameIndex := 47, descriptorIndex := 48, attributes := #[] }, { accessFlags := 24, nameIndex := 71, descriptorIndex := 58, attributes := #[] }, { accessFlags := 8, nameIndex := 57, descriptorIndex := 58, attributes := #[] }, { accessFlags := 4120, nameIndex := 19, descriptorIndex := 20, attributes := #[] }])
  fields := #[{ name := "low", type := .int, accessFlags := 24, slot := 0, constantValue := 0 }, { name := "high", type := .int, accessFlags := 24, slot := 1, constantValue := 0 }, { name := "cache", type := (.array (.object "java/lang/Integer")), accessFlags := 24, slot := 2, constantValue := 0 }, { name := "archivedCache", type := (.array (.object "java/lang/Integer")), accessFlags := 8, slot := 3, constantValue := 0 }, { name := "$assertionsDisabled", type := .boolean, accessFlags := 4120, slot := 4, constantValue := 0 }]
  methods := #[k14m0]
  instanceTypes := #[]
  staticTypes := #[.int, .int, (.array (.object "java/lang/Integer")), (.array (.object "java/lang/Integer")), .boolean]
  resolved := Array.replicate 100 none
  statics := some 1 }

def pool15 : Array CpInfo := pool [(2, .class_ 4), (1, u "java/lang/Object"), (0, u "<init>"), (0, u "()V"), (17, .class_ 26), (1, u "jdk/internal/util/Preconditions"), (28, .class_ 56), (0, u "jdk/internal/util/Preconditions$4"), (57, .class_ 115), (0, u "jdk/internal/util/Preconditions$1"), (7, u "SIOOBE_FORMATTER"), (0, u "Ljava/util/function/BiFunction;"), (0, .class_ 126), (0, u "jdk/internal/util/Preconditions$2"), (3, u "AIOOBE_FORMATTER"), (0, .class_ 132), (0, u "jdk/internal/util/Preconditions$3"), (3, u "IOOBE_FORMATTER")] 57

def k15m0 : Method := { name := "<init>", desc := "()V", sig := { parameters := [], returnType := none }, accessFlags := 1, code := none }
/-- jdk/internal/util/Preconditions -/
def k15 : Class := { plain "jdk/internal/util/Preconditions" (some 0) with
  accessFlags := 33
  interfaces := #[]
  cf := some (fileOf pool15 24 #[.nestMembers #[55, 131, 125, 114]] #[{ accessFlags := 1, nameIndex := 5, descriptorIndex := 6, attributes := #[] }] 33 2 #[] #[{ accessFlags := 25, nameIndex := 123, descriptorIndex := 124, attributes := #[] }, { accessFlags := 25, nameIndex := 130, descriptorIndex := 124, attributes := #[] }, { accessFlags := 25, nameIndex := 136, descriptorIndex := 124, attributes := #[] }])
  fields := #[{ name := "SIOOBE_FORMATTER", type := (.object "java/util/function/BiFunction"), accessFlags := 25, slot := 0, constantValue := 0 }, { name := "AIOOBE_FORMATTER", type := (.object "java/util/function/BiFunction"), accessFlags := 25, slot := 1, constantValue := 0 }, { name := "IOOBE_FORMATTER", type := (.object "java/util/function/BiFunction"), accessFlags := 25, slot := 2, constantValue := 0 }]
  methods := #[k15m0]
  instanceTypes := #[]
  staticTypes := #[(.object "java/util/function/BiFunction"), (.object "java/util/function/BiFunction"), (.object "java/util/function/BiFunction")]
  resolved := Array.replicate 194 none
  statics := some 2 }

def pool16 : Array CpInfo := pool [(9, u "<init>"), (6, .class_ 18), (1, u "java/lang/Object"), (0, u "()V"), (1, .class_ 23), (1, u "jdk/internal/util/ArraysSupport"), (0, u "LOG2_ARRAY_LONG_INDEX_SCALE"), (0, u "I"), (2, u "U"), (0, u "Ljdk/internal/misc/Unsafe;"), (8, u "BIG_ENDIAN"), (0, u "Z"), (8, u "LOG2_BYTE_BIT_SIZE"), (4, u "LOG2_ARRAY_INT_INDEX_SCALE"), (54, u "JLA"), (0, u "Ljdk/internal/access/JavaLangAccess;"), (11, u "LOG2_ARRAY_BOOLEAN_INDEX_SCALE"), (9, u "LOG2_ARRAY_BYTE_INDEX_SCALE"), (5, u "LOG2_ARRAY_CHAR_INDEX_SCALE"), (5, u "LOG2_ARRAY_SHORT_INDEX_SCALE"), (18, u "LOG2_ARRAY_FLOAT_INDEX_SCALE"), (24, u "LOG2_ARRAY_DOUBLE_INDEX_SCALE"), (89, u "T_BOOLEAN"), (2, u "T_CHAR"), (1, u "T_FLOAT"), (1, u "T_DOUBLE"), (1, u "T_BYTE"), (1, u "T_SHORT"), (1, u "T_INT"), (1, u "T_LONG"), (1, u "SOFT_MAX_ARRAY_LENGTH")] 83

def k16m0 : Method := { name := "<init>", desc := "()V", sig := { parameters := [], returnType := none }, accessFlags := 2, code := none }
/-- jdk/internal/util/ArraysSupport -/
def k16 : Class := { plain "jdk/internal/util/ArraysSupport" (some 0) with
  accessFlags := 33
  interfaces := #[]
  cf := some (fileOf pool16 21 #[] #[{ accessFlags := 2, nameIndex := 9, descriptorIndex := 19, attributes := #[] }] 33 16 #[] #[{ accessFlags := 24, nameIndex := 28, descriptorIndex := 29, attributes := #[] }, { accessFlags := 26, nameIndex := 38, descriptorIndex := 39, attributes := #[] }, { accessFlags := 25, nameIndex := 121, descriptorIndex := 25, attributes := #[] }, { accessFlags := 25, nameIndex := 131, descriptorIndex := 25, attributes := #[] }, { accessFlags := 25, nameIndex := 137, descriptorIndex := 25, attributes := #[] }, { accessFlags := 25, nameIndex := 143, descriptorIndex := 25, attributes := #[] }, { accessFlags := 25, nameIndex := 53, descriptorIndex := 25, attributes := #[] }, { accessFlags := 25, nameIndex := 24, descriptorIndex := 25, attributes := #[] }, { accessFlags := 25, nameIndex := 162, descriptorIndex := 25, attributes := #[] }, { accessFlags := 25, nameIndex := 187, descriptorIndex := 25, attributes := #[] }, { accessFlags := 26, nameIndex := 48, descriptorIndex := 25, attributes := #[] }, { accessFlags := 25, nameIndex := 277, descriptorIndex := 25, attributes := #[] }, { accessFlags := 25, nameIndex := 280, descriptorIndex := 25, attributes := #[] }, { accessFlags := 25, nameIndex := 282, descriptorIndex := 25, attributes := #[] }, { accessFlags := 25, nameIndex := 284, descriptorIndex := 25, attributes := #[] }, { accessFlags := 25, nameIndex := 286, descriptorIndex := 25, attributes := #[] }, { accessFlags := 25, nameIndex := 288, descriptorIndex := 25, attributes := #[] }, { accessFlags := 25, nameIndex := 290, descriptorIndex := 25, attributes := #[] }, { accessFlags := 25, nameIndex := 292, descriptorIndex := 25, attributes := #[] }, { accessFlags := 26, nameIndex := 108, descriptorIndex := 109, attributes := #[] }, { accessFlags := 25, nameIndex := 294, descriptorIndex := 25, attributes := #[] }])
  fields := #[{ name := "U", type := (.object "jdk/internal/misc/Unsafe"), accessFlags := 24, slot := 0, constantValue := 0 }, { name := "BIG_ENDIAN", type := .boolean, accessFlags := 26, slot := 1, constantValue := 0 }, { name := "LOG2_ARRAY_BOOLEAN_INDEX_SCALE", type := .int, accessFlags := 25, slot := 2, constantValue := 0 }, { name := "LOG2_ARRAY_BYTE_INDEX_SCALE", type := .int, accessFlags := 25, slot := 3, constantValue := 0 }, { name := "LOG2_ARRAY_CHAR_INDEX_SCALE", type := .int, accessFlags := 25, slot := 4, constantValue := 0 }, { name := "LOG2_ARRAY_SHORT_INDEX_SCALE", type := .int, accessFlags := 25, slot := 5, constantValue := 0 }, { name := "LOG2_ARRAY_INT_INDEX_SCALE", type := .int, accessFlags := 25, slot := 6, constantValue := 0 }, { name := "LOG2_ARRAY_LONG_INDEX_SCALE", type := .int, accessFlags := 25, slot := 7, constantValue := 0 }, { name := "LOG2_ARRAY_FLOAT_INDEX_SCALE", type := .int, accessFlags := 25, slot := 8, constantValue := 0 }, { name := "LOG2_ARRAY_DOUBLE_INDEX_SCALE", type := .int, accessFlags := 25, slot := 9, constantValue := 0 }, { name := "LOG2_BYTE_BIT_SIZE", type := .int, accessFlags := 26, slot := 10, constantValue := 0 }, { name := "T_BOOLEAN", type := .int, accessFlags := 25, slot := 11, constantValue := 0 }, { name := "T_CHAR", type := .int, accessFlags := 25, slot := 12, constantValue := 0 }, { name := "T_FLOAT", type := .int, accessFlags := 25, slot := 13, constantValue := 0 }, { name := "T_DOUBLE", type := .int, accessFlags := 25, slot := 14, constantValue := 0 }, { name := "T_BYTE", type := .int, accessFlags := 25, slot := 15, constantValue := 0 }, { name := "T_SHORT", type := .int, accessFlags := 25, slot := 16, constantValue := 0 }, { name := "T_INT", type := .int, accessFlags := 25, slot := 17, constantValue := 0 }, { name := "T_LONG", type := .int, accessFlags := 25, slot := 18, constantValue := 0 }, { name := "JLA", type := (.object "jdk/internal/access/JavaLangAccess"), accessFlags := 26, slot := 19, constantValue := 0 }, { name := "SOFT_MAX_ARRAY_LENGTH", type := .int, accessFlags := 25, slot := 20, constantValue := 0 }]
  methods := #[k16m0]
  instanceTypes := #[]
  staticTypes := #[(.object "jdk/internal/misc/Unsafe"), .boolean, .int, .int, .int, .int, .int, .int, .int, .int, .int, .int, .int, .int, .int, .int, .int, .int, .int, (.object "jdk/internal/access/JavaLangAccess"), .int]
  resolved := Array.replicate 378 none
  statics := none }

def pool17 : Array CpInfo := pool [(1, u "java/lang/Cloneable"), (0, .class_ 1), (0, u "java/lang/Object"), (0, .class_ 3)] 3

/-- java/lang/Cloneable -/
def k17 : Class := { plain "java/lang/Cloneable" (some 0) with
  accessFlags := 1537
  interfaces := #[]
  cf := some (fileOf pool17 2 #[] #[] 1537 4 #[] #[])
  fields := #[]
  methods := #[]
  instanceTypes := #[]
  staticTypes := #[]
  resolved := Array.replicate 8 none
  statics := none }

/-- the primitive byte -/
def k18 : Class := { plain "byte" none with kind := .primitive 'B', accessFlags := 0x411 }
/-- [B -/
def k19 : Class := { plain "[B" (some 0) with kind := .array 18 .byte, interfaces := #[17, 2], accessFlags := 1041 }

/-- the primitive int -/
def k20 : Class := { plain "int" none with kind := .primitive 'I', accessFlags := 0x411 }
/-- [I -/
def k21 : Class := { plain "[I" (some 0) with kind := .array 20 .int, interfaces := #[17, 2], accessFlags := 1041 }

/-- [Ljava/lang/Integer; -/
def k22 : Class := { plain "[Ljava/lang/Integer;" (some 0) with kind := .array 13 (.object "java/lang/Integer"), interfaces := #[17, 2], accessFlags := 1041 }

/-- [Ljava/lang/String; -/
def k23 : Class := { plain "[Ljava/lang/String;" (some 0) with kind := .array 7 (.object "java/lang/String"), interfaces := #[17, 2], accessFlags := 1041 }

def heap : Heap := #[{ cls := 7, slots := #[.long 0, .int 1, .null, .int 0, .null, .int 0, .int 0], vm := .statics 7 },
  { cls := 14, slots := #[.int 0, .int 127, .ref 3, .null, .int 0], vm := .statics 14 },
  { cls := 15, slots := #[.null, .null, .null], vm := .statics 15 },
  { cls := 22, slots := #[.ref 4, .ref 5, .ref 6, .ref 7, .ref 8, .ref 9, .ref 10, .ref 11, .ref 12, .ref 13, .ref 14, .ref 15, .ref 16, .ref 17, .ref 18, .ref 19, .ref 20, .ref 21, .ref 22, .ref 23, .ref 24, .ref 25, .ref 26, .ref 27, .ref 28, .ref 29, .ref 30, .ref 31, .ref 32, .ref 33, .ref 34, .ref 35, .ref 36, .ref 37, .ref 38, .ref 39, .ref 40, .ref 41, .ref 42, .ref 43, .ref 44, .ref 45, .ref 46, .ref 47, .ref 48, .ref 49, .ref 50, .ref 51, .ref 52, .ref 53, .ref 54, .ref 55, .ref 56, .ref 57, .ref 58, .ref 59, .ref 60, .ref 61, .ref 62, .ref 63, .ref 64, .ref 65, .ref 66, .ref 67, .ref 68, .ref 69, .ref 70, .ref 71, .ref 72, .ref 73, .ref 74, .ref 75, .ref 76, .ref 77, .ref 78, .ref 79, .ref 80, .ref 81, .ref 82, .ref 83, .ref 84, .ref 85, .ref 86, .ref 87, .ref 88, .ref 89, .ref 90, .ref 91, .ref 92, .ref 93, .ref 94, .ref 95, .ref 96, .ref 97, .ref 98, .ref 99, .ref 100, .ref 101, .ref 102, .ref 103, .ref 104, .ref 105, .ref 106, .ref 107, .ref 108, .ref 109, .ref 110, .ref 111, .ref 112, .ref 113, .ref 114, .ref 115, .ref 116, .ref 117, .ref 118, .ref 119, .ref 120, .ref 121, .ref 122, .ref 123, .ref 124, .ref 125, .ref 126, .ref 127, .ref 128, .ref 129, .ref 130, .ref 131, .ref 132, .ref 133, .ref 134, .ref 135, .ref 136, .ref 137, .ref 138, .ref 139, .ref 140, .ref 141, .ref 142, .ref 143, .ref 144, .ref 145, .ref 146, .ref 147, .ref 148, .ref 149, .ref 150, .ref 151, .ref 152, .ref 153, .ref 154, .ref 155, .ref 156, .ref 157, .ref 158, .ref 159, .ref 160, .ref 161, .ref 162, .ref 163, .ref 164, .ref 165, .ref 166, .ref 167, .ref 168, .ref 169, .ref 170, .ref 171, .ref 172, .ref 173, .ref 174, .ref 175, .ref 176, .ref 177, .ref 178, .ref 179, .ref 180, .ref 181, .ref 182, .ref 183, .ref 184, .ref 185, .ref 186, .ref 187, .ref 188, .ref 189, .ref 190, .ref 191, .ref 192, .ref 193, .ref 194, .ref 195, .ref 196, .ref 197, .ref 198, .ref 199, .ref 200, .ref 201, .ref 202, .ref 203, .ref 204, .ref 205, .ref 206, .ref 207, .ref 208, .ref 209, .ref 210, .ref 211, .ref 212, .ref 213, .ref 214, .ref 215, .ref 216, .ref 217, .ref 218, .ref 219, .ref 220, .ref 221, .ref 222, .ref 223, .ref 224, .ref 225, .ref 226, .ref 227, .ref 228, .ref 229, .ref 230, .ref 231, .ref 232, .ref 233, .ref 234, .ref 235, .ref 236, .ref 237, .ref 238, .ref 239, .ref 240, .ref 241, .ref 242, .ref 243, .ref 244, .ref 245, .ref 246, .ref 247, .ref 248, .ref 249, .ref 250, .ref 251, .ref 252, .ref 253, .ref 254, .ref 255, .ref 256, .ref 257, .ref 258, .ref 259], vm := .none },
  { cls := 13, slots := #[.int (-128)], vm := .none },
  { cls := 13, slots := #[.int (-127)], vm := .none },
  { cls := 13, slots := #[.int (-126)], vm := .none },
  { cls := 13, slots := #[.int (-125)], vm := .none },
  { cls := 13, slots := #[.int (-124)], vm := .none },
  { cls := 13, slots := #[.int (-123)], vm := .none },
  { cls := 13, slots := #[.int (-122)], vm := .none },
  { cls := 13, slots := #[.int (-121)], vm := .none },
  { cls := 13, slots := #[.int (-120)], vm := .none },
  { cls := 13, slots := #[.int (-119)], vm := .none },
  { cls := 13, slots := #[.int (-118)], vm := .none },
  { cls := 13, slots := #[.int (-117)], vm := .none },
  { cls := 13, slots := #[.int (-116)], vm := .none },
  { cls := 13, slots := #[.int (-115)], vm := .none },
  { cls := 13, slots := #[.int (-114)], vm := .none },
  { cls := 13, slots := #[.int (-113)], vm := .none },
  { cls := 13, slots := #[.int (-112)], vm := .none },
  { cls := 13, slots := #[.int (-111)], vm := .none },
  { cls := 13, slots := #[.int (-110)], vm := .none },
  { cls := 13, slots := #[.int (-109)], vm := .none },
  { cls := 13, slots := #[.int (-108)], vm := .none },
  { cls := 13, slots := #[.int (-107)], vm := .none },
  { cls := 13, slots := #[.int (-106)], vm := .none },
  { cls := 13, slots := #[.int (-105)], vm := .none },
  { cls := 13, slots := #[.int (-104)], vm := .none },
  { cls := 13, slots := #[.int (-103)], vm := .none },
  { cls := 13, slots := #[.int (-102)], vm := .none },
  { cls := 13, slots := #[.int (-101)], vm := .none },
  { cls := 13, slots := #[.int (-100)], vm := .none },
  { cls := 13, slots := #[.int (-99)], vm := .none },
  { cls := 13, slots := #[.int (-98)], vm := .none },
  { cls := 13, slots := #[.int (-97)], vm := .none },
  { cls := 13, slots := #[.int (-96)], vm := .none },
  { cls := 13, slots := #[.int (-95)], vm := .none },
  { cls := 13, slots := #[.int (-94)], vm := .none },
  { cls := 13, slots := #[.int (-93)], vm := .none },
  { cls := 13, slots := #[.int (-92)], vm := .none },
  { cls := 13, slots := #[.int (-91)], vm := .none },
  { cls := 13, slots := #[.int (-90)], vm := .none },
  { cls := 13, slots := #[.int (-89)], vm := .none },
  { cls := 13, slots := #[.int (-88)], vm := .none },
  { cls := 13, slots := #[.int (-87)], vm := .none },
  { cls := 13, slots := #[.int (-86)], vm := .none },
  { cls := 13, slots := #[.int (-85)], vm := .none },
  { cls := 13, slots := #[.int (-84)], vm := .none },
  { cls := 13, slots := #[.int (-83)], vm := .none },
  { cls := 13, slots := #[.int (-82)], vm := .none },
  { cls := 13, slots := #[.int (-81)], vm := .none },
  { cls := 13, slots := #[.int (-80)], vm := .none },
  { cls := 13, slots := #[.int (-79)], vm := .none },
  { cls := 13, slots := #[.int (-78)], vm := .none },
  { cls := 13, slots := #[.int (-77)], vm := .none },
  { cls := 13, slots := #[.int (-76)], vm := .none },
  { cls := 13, slots := #[.int (-75)], vm := .none },
  { cls := 13, slots := #[.int (-74)], vm := .none },
  { cls := 13, slots := #[.int (-73)], vm := .none },
  { cls := 13, slots := #[.int (-72)], vm := .none },
  { cls := 13, slots := #[.int (-71)], vm := .none },
  { cls := 13, slots := #[.int (-70)], vm := .none },
  { cls := 13, slots := #[.int (-69)], vm := .none },
  { cls := 13, slots := #[.int (-68)], vm := .none },
  { cls := 13, slots := #[.int (-67)], vm := .none },
  { cls := 13, slots := #[.int (-66)], vm := .none },
  { cls := 13, slots := #[.int (-65)], vm := .none },
  { cls := 13, slots := #[.int (-64)], vm := .none },
  { cls := 13, slots := #[.int (-63)], vm := .none },
  { cls := 13, slots := #[.int (-62)], vm := .none },
  { cls := 13, slots := #[.int (-61)], vm := .none },
  { cls := 13, slots := #[.int (-60)], vm := .none },
  { cls := 13, slots := #[.int (-59)], vm := .none },
  { cls := 13, slots := #[.int (-58)], vm := .none },
  { cls := 13, slots := #[.int (-57)], vm := .none },
  { cls := 13, slots := #[.int (-56)], vm := .none },
  { cls := 13, slots := #[.int (-55)], vm := .none },
  { cls := 13, slots := #[.int (-54)], vm := .none },
  { cls := 13, slots := #[.int (-53)], vm := .none },
  { cls := 13, slots := #[.int (-52)], vm := .none },
  { cls := 13, slots := #[.int (-51)], vm := .none },
  { cls := 13, slots := #[.int (-50)], vm := .none },
  { cls := 13, slots := #[.int (-49)], vm := .none },
  { cls := 13, slots := #[.int (-48)], vm := .none },
  { cls := 13, slots := #[.int (-47)], vm := .none },
  { cls := 13, slots := #[.int (-46)], vm := .none },
  { cls := 13, slots := #[.int (-45)], vm := .none },
  { cls := 13, slots := #[.int (-44)], vm := .none },
  { cls := 13, slots := #[.int (-43)], vm := .none },
  { cls := 13, slots := #[.int (-42)], vm := .none },
  { cls := 13, slots := #[.int (-41)], vm := .none },
  { cls := 13, slots := #[.int (-40)], vm := .none },
  { cls := 13, slots := #[.int (-39)], vm := .none },
  { cls := 13, slots := #[.int (-38)], vm := .none },
  { cls := 13, slots := #[.int (-37)], vm := .none },
  { cls := 13, slots := #[.int (-36)], vm := .none },
  { cls := 13, slots := #[.int (-35)], vm := .none },
  { cls := 13, slots := #[.int (-34)], vm := .none },
  { cls := 13, slots := #[.int (-33)], vm := .none },
  { cls := 13, slots := #[.int (-32)], vm := .none },
  { cls := 13, slots := #[.int (-31)], vm := .none },
  { cls := 13, slots := #[.int (-30)], vm := .none },
  { cls := 13, slots := #[.int (-29)], vm := .none },
  { cls := 13, slots := #[.int (-28)], vm := .none },
  { cls := 13, slots := #[.int (-27)], vm := .none },
  { cls := 13, slots := #[.int (-26)], vm := .none },
  { cls := 13, slots := #[.int (-25)], vm := .none },
  { cls := 13, slots := #[.int (-24)], vm := .none },
  { cls := 13, slots := #[.int (-23)], vm := .none },
  { cls := 13, slots := #[.int (-22)], vm := .none },
  { cls := 13, slots := #[.int (-21)], vm := .none },
  { cls := 13, slots := #[.int (-20)], vm := .none },
  { cls := 13, slots := #[.int (-19)], vm := .none },
  { cls := 13, slots := #[.int (-18)], vm := .none },
  { cls := 13, slots := #[.int (-17)], vm := .none },
  { cls := 13, slots := #[.int (-16)], vm := .none },
  { cls := 13, slots := #[.int (-15)], vm := .none },
  { cls := 13, slots := #[.int (-14)], vm := .none },
  { cls := 13, slots := #[.int (-13)], vm := .none },
  { cls := 13, slots := #[.int (-12)], vm := .none },
  { cls := 13, slots := #[.int (-11)], vm := .none },
  { cls := 13, slots := #[.int (-10)], vm := .none },
  { cls := 13, slots := #[.int (-9)], vm := .none },
  { cls := 13, slots := #[.int (-8)], vm := .none },
  { cls := 13, slots := #[.int (-7)], vm := .none },
  { cls := 13, slots := #[.int (-6)], vm := .none },
  { cls := 13, slots := #[.int (-5)], vm := .none },
  { cls := 13, slots := #[.int (-4)], vm := .none },
  { cls := 13, slots := #[.int (-3)], vm := .none },
  { cls := 13, slots := #[.int (-2)], vm := .none },
  { cls := 13, slots := #[.int (-1)], vm := .none },
  { cls := 13, slots := #[.int 0], vm := .none },
  { cls := 13, slots := #[.int 1], vm := .none },
  { cls := 13, slots := #[.int 2], vm := .none },
  { cls := 13, slots := #[.int 3], vm := .none },
  { cls := 13, slots := #[.int 4], vm := .none },
  { cls := 13, slots := #[.int 5], vm := .none },
  { cls := 13, slots := #[.int 6], vm := .none },
  { cls := 13, slots := #[.int 7], vm := .none },
  { cls := 13, slots := #[.int 8], vm := .none },
  { cls := 13, slots := #[.int 9], vm := .none },
  { cls := 13, slots := #[.int 10], vm := .none },
  { cls := 13, slots := #[.int 11], vm := .none },
  { cls := 13, slots := #[.int 12], vm := .none },
  { cls := 13, slots := #[.int 13], vm := .none },
  { cls := 13, slots := #[.int 14], vm := .none },
  { cls := 13, slots := #[.int 15], vm := .none },
  { cls := 13, slots := #[.int 16], vm := .none },
  { cls := 13, slots := #[.int 17], vm := .none },
  { cls := 13, slots := #[.int 18], vm := .none },
  { cls := 13, slots := #[.int 19], vm := .none },
  { cls := 13, slots := #[.int 20], vm := .none },
  { cls := 13, slots := #[.int 21], vm := .none },
  { cls := 13, slots := #[.int 22], vm := .none },
  { cls := 13, slots := #[.int 23], vm := .none },
  { cls := 13, slots := #[.int 24], vm := .none },
  { cls := 13, slots := #[.int 25], vm := .none },
  { cls := 13, slots := #[.int 26], vm := .none },
  { cls := 13, slots := #[.int 27], vm := .none },
  { cls := 13, slots := #[.int 28], vm := .none },
  { cls := 13, slots := #[.int 29], vm := .none },
  { cls := 13, slots := #[.int 30], vm := .none },
  { cls := 13, slots := #[.int 31], vm := .none },
  { cls := 13, slots := #[.int 32], vm := .none },
  { cls := 13, slots := #[.int 33], vm := .none },
  { cls := 13, slots := #[.int 34], vm := .none },
  { cls := 13, slots := #[.int 35], vm := .none },
  { cls := 13, slots := #[.int 36], vm := .none },
  { cls := 13, slots := #[.int 37], vm := .none },
  { cls := 13, slots := #[.int 38], vm := .none },
  { cls := 13, slots := #[.int 39], vm := .none },
  { cls := 13, slots := #[.int 40], vm := .none },
  { cls := 13, slots := #[.int 41], vm := .none },
  { cls := 13, slots := #[.int 42], vm := .none },
  { cls := 13, slots := #[.int 43], vm := .none },
  { cls := 13, slots := #[.int 44], vm := .none },
  { cls := 13, slots := #[.int 45], vm := .none },
  { cls := 13, slots := #[.int 46], vm := .none },
  { cls := 13, slots := #[.int 47], vm := .none },
  { cls := 13, slots := #[.int 48], vm := .none },
  { cls := 13, slots := #[.int 49], vm := .none },
  { cls := 13, slots := #[.int 50], vm := .none },
  { cls := 13, slots := #[.int 51], vm := .none },
  { cls := 13, slots := #[.int 52], vm := .none },
  { cls := 13, slots := #[.int 53], vm := .none },
  { cls := 13, slots := #[.int 54], vm := .none },
  { cls := 13, slots := #[.int 55], vm := .none },
  { cls := 13, slots := #[.int 56], vm := .none },
  { cls := 13, slots := #[.int 57], vm := .none },
  { cls := 13, slots := #[.int 58], vm := .none },
  { cls := 13, slots := #[.int 59], vm := .none },
  { cls := 13, slots := #[.int 60], vm := .none },
  { cls := 13, slots := #[.int 61], vm := .none },
  { cls := 13, slots := #[.int 62], vm := .none },
  { cls := 13, slots := #[.int 63], vm := .none },
  { cls := 13, slots := #[.int 64], vm := .none },
  { cls := 13, slots := #[.int 65], vm := .none },
  { cls := 13, slots := #[.int 66], vm := .none },
  { cls := 13, slots := #[.int 67], vm := .none },
  { cls := 13, slots := #[.int 68], vm := .none },
  { cls := 13, slots := #[.int 69], vm := .none },
  { cls := 13, slots := #[.int 70], vm := .none },
  { cls := 13, slots := #[.int 71], vm := .none },
  { cls := 13, slots := #[.int 72], vm := .none },
  { cls := 13, slots := #[.int 73], vm := .none },
  { cls := 13, slots := #[.int 74], vm := .none },
  { cls := 13, slots := #[.int 75], vm := .none },
  { cls := 13, slots := #[.int 76], vm := .none },
  { cls := 13, slots := #[.int 77], vm := .none },
  { cls := 13, slots := #[.int 78], vm := .none },
  { cls := 13, slots := #[.int 79], vm := .none },
  { cls := 13, slots := #[.int 80], vm := .none },
  { cls := 13, slots := #[.int 81], vm := .none },
  { cls := 13, slots := #[.int 82], vm := .none },
  { cls := 13, slots := #[.int 83], vm := .none },
  { cls := 13, slots := #[.int 84], vm := .none },
  { cls := 13, slots := #[.int 85], vm := .none },
  { cls := 13, slots := #[.int 86], vm := .none },
  { cls := 13, slots := #[.int 87], vm := .none },
  { cls := 13, slots := #[.int 88], vm := .none },
  { cls := 13, slots := #[.int 89], vm := .none },
  { cls := 13, slots := #[.int 90], vm := .none },
  { cls := 13, slots := #[.int 91], vm := .none },
  { cls := 13, slots := #[.int 92], vm := .none },
  { cls := 13, slots := #[.int 93], vm := .none },
  { cls := 13, slots := #[.int 94], vm := .none },
  { cls := 13, slots := #[.int 95], vm := .none },
  { cls := 13, slots := #[.int 96], vm := .none },
  { cls := 13, slots := #[.int 97], vm := .none },
  { cls := 13, slots := #[.int 98], vm := .none },
  { cls := 13, slots := #[.int 99], vm := .none },
  { cls := 13, slots := #[.int 100], vm := .none },
  { cls := 13, slots := #[.int 101], vm := .none },
  { cls := 13, slots := #[.int 102], vm := .none },
  { cls := 13, slots := #[.int 103], vm := .none },
  { cls := 13, slots := #[.int 104], vm := .none },
  { cls := 13, slots := #[.int 105], vm := .none },
  { cls := 13, slots := #[.int 106], vm := .none },
  { cls := 13, slots := #[.int 107], vm := .none },
  { cls := 13, slots := #[.int 108], vm := .none },
  { cls := 13, slots := #[.int 109], vm := .none },
  { cls := 13, slots := #[.int 110], vm := .none },
  { cls := 13, slots := #[.int 111], vm := .none },
  { cls := 13, slots := #[.int 112], vm := .none },
  { cls := 13, slots := #[.int 113], vm := .none },
  { cls := 13, slots := #[.int 114], vm := .none },
  { cls := 13, slots := #[.int 115], vm := .none },
  { cls := 13, slots := #[.int 116], vm := .none },
  { cls := 13, slots := #[.int 117], vm := .none },
  { cls := 13, slots := #[.int 118], vm := .none },
  { cls := 13, slots := #[.int 119], vm := .none },
  { cls := 13, slots := #[.int 120], vm := .none },
  { cls := 13, slots := #[.int 121], vm := .none },
  { cls := 13, slots := #[.int 122], vm := .none },
  { cls := 13, slots := #[.int 123], vm := .none },
  { cls := 13, slots := #[.int 124], vm := .none },
  { cls := 13, slots := #[.int 125], vm := .none },
  { cls := 13, slots := #[.int 126], vm := .none },
  { cls := 13, slots := #[.int 127], vm := .none }]
def classes : Array Class := #[k0, k1, k2, k3, k4, k5, k6, k7, k8, k9, k10, k11, k12, k13, k14, k15, k16, k17, k18, k19, k20, k21, k22, k23]
def interned : List (Array UInt16 × Addr) := []
def slotsUsed : Nat := 527
def theMethod : MethodId := ⟨1, 1⟩
def args0 : Array Value := #[.int 5, .int 7, .int 1]
def aboutOver (below : List Frame) : State where
  vm := { classes := classes, interned := interned.toArray }
  heap := heap
  slotsUsed := slotsUsed
  threads := #[{ frames := .invoking theMethod args0 :: below }]
def below0 : List Frame := [.native { method := ⟨0, 0⟩, args := #[] }]
def about1 : State := aboutOver below0
def p0 : Program := .bare "" "" ""
def e0 : Env := launch0.env 0 0 0
theorem w_frames : about1.frames = Frame.invoking theMethod args0 :: below0 := rfl
set_option maxRecDepth 65536 in
theorem w_args : argsFit about1.vm theMethod args0 = true := by decide +kernel
set_option maxRecDepth 65536 in
theorem w_heap : heapFits about1 = true := by decide +kernel
set_option maxRecDepth 65536 in
theorem w_runnable : about1.curStatus? = some .runnable := by decide +kernel
set_option maxRecDepth 65536 in
theorem w_alone : about1.alone = true := by decide +kernel
set_option maxRecDepth 65536 in
theorem w_named : about1.methodNamed? x = some theMethod := by decide +kernel
set_option maxRecDepth 65536 in
theorem w_hears : about1.hears theMethod below0 = true := by decide +kernel
set_option maxRecDepth 65536 in
theorem w_ripe : about1.ripe theMethod args0 below0 = true := by decide +kernel
theorem w_running : about1.status = .running := rfl
set_option maxRecDepth 65536 in
theorem w_room : about1.hasRoom e0.platform room_1 = true :=
  launch0.hasRoom_least _ room_1 (by decide +kernel) (by decide +kernel) (by decide +kernel) (by decide +kernel) (by decide +kernel) (by decide +kernel)
theorem allAtoms_all (ts : List Jvm.Cond) (a : Array Jvm.Value) (st : Jvm.State) : (allAtoms ts).before a st = ts.all (fun c => c.before a st) := by
  induction ts with
  | nil => rfl
  | cons c t ih =>
    show (Jvm.Cond.and c (allAtoms t)).before a st = _
    rw [Jvm.Cond.before_and, ih, List.all_cons]
def words1 : List Jvm.Cond := Jvm.Cond.code x code maxLocals ret :: tables_1
/-- a 'code' word, met by the world's own term for the bytes: nothing is compared byte by byte -/
theorem code_word {y : MethodName} {bytes : ByteArray} {mx : Nat} {rt : Option FieldType} {a : Array Value} {s : State} {m : MethodId} {meth : Method} {c : Code} (h1 : s.methodNamed? y = some m) (h2 : s.vm.method? m = some meth) (h3 : meth.code = some c) (h4 : c.code = bytes)
    (h5 : (c.maxLocals == mx && c.exceptionTable.isEmpty && decide (c.maxStack ≤ mostOperands) && decide (meth.sig.returnType = rt) && !meth.locks && decide (parseMethodDescriptor y.desc = some meth.sig)) = true) : (Jvm.Cond.code y bytes mx rt).before a s = true := by
  simp only [Bool.and_eq_true, beq_iff_eq, Bool.not_eq_true', decide_eq_true_eq] at h5
  obtain ⟨⟨⟨⟨⟨g1, g2⟩, g3⟩, g4⟩, g5⟩, g6⟩ := h5
  simp [Cond.before, Cond.holds, Cond.value, h1, h2, h3, h4, g1, g2, g3, g4, g5, g6]
def isCode : Jvm.Cond → Bool
  | .code _ _ _ _ => true
  | _ => false
theorem all_split {L : List Jvm.Cond} {P : Jvm.Cond → Bool} (h1 : L.all (fun c => isCode c || P c) = true) (h2 : ∀ c ∈ L.filter isCode, P c = true) : L.all P = true := by
  refine List.all_eq_true.mpr fun c hc => ?_
  have h := List.all_eq_true.mp h1 c hc
  rcases Bool.eq_false_or_eq_true (isCode c) with hi | hi
  · exact h2 c (List.mem_filter.mpr ⟨hc, hi⟩)
  · simpa [hi] using h
set_option maxRecDepth 65536 in
theorem w_c0 : (Jvm.Cond.code x code maxLocals ret).before args0 about1 = true := code_word (m := ⟨1, 1⟩) (meth := k1m1) (c := k1c1) (by decide +kernel) rfl rfl rfl (by decide +kernel)
set_option maxRecDepth 65536 in
theorem w_c1 : (Jvm.Cond.code ({ cls := "java/lang/String", name := "valueOf", desc := "(C)Ljava/lang/String;" } : Jvm.MethodName) jdk_42_method_139_code (1 : Nat) (Option.some (Jvm.ClassFile.FieldType.object "java/lang/String"))).before args0 about1 = true := code_word (m := ⟨7, 2⟩) (meth := k7m2) (c := k7c2) (by decide +kernel) rfl rfl rfl (by decide +kernel)
set_option maxRecDepth 65536 in
theorem w_c2 : (Jvm.Cond.code ({ cls := "java/lang/StringLatin1", name := "canEncode", desc := "(C)Z" } : Jvm.MethodName) jdk_43_method_3_code (1 : Nat) (Option.some Jvm.ClassFile.FieldType.boolean)).before args0 about1 = true := code_word (m := ⟨8, 1⟩) (meth := k8m1) (c := k8c1) (by decide +kernel) rfl rfl rfl (by decide +kernel)
set_option maxRecDepth 65536 in
theorem w_c3 : (Jvm.Cond.code ({ cls := "java/lang/StringLatin1", name := "toBytes", desc := "(C)[B" } : Jvm.MethodName) jdk_43_method_46_code (1 : Nat) (Option.some (Jvm.ClassFile.FieldType.array Jvm.ClassFile.FieldType.byte))).before args0 about1 = true := code_word (m := ⟨8, 3⟩) (meth := k8m3) (c := k8c3) (by decide +kernel) rfl rfl rfl (by decide +kernel)
set_option maxRecDepth 65536 in
theorem w_c4 : (Jvm.Cond.code ({ cls := "java/lang/String", name := "<init>", desc := "([BB)V" } : Jvm.MethodName) jdk_42_method_151_code (3 : Nat) (Option.none : Option Jvm.ClassFile.FieldType)).before args0 about1 = true := code_word (m := ⟨7, 3⟩) (meth := k7m3) (c := k7c3) (by decide +kernel) rfl rfl rfl (by decide +kernel)
set_option maxRecDepth 65536 in
theorem w_c5 : (Jvm.Cond.code ({ cls := "java/lang/Object", name := "<init>", desc := "()V" } : Jvm.MethodName) object_method_1_code (1 : Nat) (Option.none : Option Jvm.ClassFile.FieldType)).before args0 about1 = true := code_word (m := ⟨0, 0⟩) (meth := k0m0) (c := k0c0) (by decide +kernel) rfl rfl rfl (by decide +kernel)
set_option maxRecDepth 65536 in
theorem w_c6 : (Jvm.Cond.code ({ cls := "com/example/kette/kette/JsonObject", name := "walk", desc := "([Ljava/lang/String;ILjava/lang/Object;)I" } : Jvm.MethodName) prog_30_method_4_code (5 : Nat) (Option.some Jvm.ClassFile.FieldType.int)).before args0 about1 = true := code_word (m := ⟨11, 0⟩) (meth := k11m0) (c := k11c0) (by decide +kernel) rfl rfl rfl (by decide +kernel)
set_option maxRecDepth 65536 in
theorem w_c7 : (Jvm.Cond.code ({ cls := "java/lang/String", name := "equals", desc := "(Ljava/lang/Object;)Z" } : Jvm.MethodName) jdk_42_method_66_code (3 : Nat) (Option.some Jvm.ClassFile.FieldType.boolean)).before args0 about1 = true := code_word (m := ⟨7, 1⟩) (meth := k7m1) (c := k7c1) (by decide +kernel) rfl rfl rfl (by decide +kernel)
set_option maxRecDepth 65536 in
theorem w_c8 : (Jvm.Cond.code ({ cls := "java/lang/StringLatin1", name := "equals", desc := "([B[B)Z" } : Jvm.MethodName) jdk_43_method_13_code (3 : Nat) (Option.some Jvm.ClassFile.FieldType.boolean)).before args0 about1 = true := code_word (m := ⟨8, 2⟩) (meth := k8m2) (c := k8c2) (by decide +kernel) rfl rfl rfl (by decide +kernel)
set_option maxRecDepth 65536 in
theorem w_c9 : (Jvm.Cond.code ({ cls := "java/lang/Integer", name := "valueOf", desc := "(I)Ljava/lang/Integer;" } : Jvm.MethodName) jdk_33_method_22_code (1 : Nat) (Option.some (Jvm.ClassFile.FieldType.object "java/lang/Integer"))).before args0 about1 = true := code_word (m := ⟨13, 0⟩) (meth := k13m0) (c := k13c0) (by decide +kernel) rfl rfl rfl (by decide +kernel)
set_option maxRecDepth 65536 in
theorem w_c10 : (Jvm.Cond.code ({ cls := "java/lang/Integer", name := "<init>", desc := "(I)V" } : Jvm.MethodName) jdk_33_method_23_code (2 : Nat) (Option.none : Option Jvm.ClassFile.FieldType)).before args0 about1 = true := code_word (m := ⟨13, 1⟩) (meth := k13m1) (c := k13c1) (by decide +kernel) rfl rfl rfl (by decide +kernel)
set_option maxRecDepth 65536 in
theorem w_c11 : (Jvm.Cond.code ({ cls := "java/lang/Number", name := "<init>", desc := "()V" } : Jvm.MethodName) jdk_18_method_1_code (1 : Nat) (Option.none : Option Jvm.ClassFile.FieldType)).before args0 about1 = true := code_word (m := ⟨12, 0⟩) (meth := k12m0) (c := k12c0) (by decide +kernel) rfl rfl rfl (by decide +kernel)
def codes1 : List Jvm.Cond := [Jvm.Cond.code x code maxLocals ret, Jvm.Cond.code ({ cls := "java/lang/String", name := "valueOf", desc := "(C)Ljava/lang/String;" } : Jvm.MethodName) jdk_42_method_139_code (1 : Nat) (Option.some (Jvm.ClassFile.FieldType.object "java/lang/String")), Jvm.Cond.code ({ cls := "java/lang/StringLatin1", name := "canEncode", desc := "(C)Z" } : Jvm.MethodName) jdk_43_method_3_code (1 : Nat) (Option.some Jvm.ClassFile.FieldType.boolean), Jvm.Cond.code ({ cls := "java/lang/StringLatin1", name := "toBytes", desc := "(C)[B" } : Jvm.MethodName) jdk_43_method_46_code (1 : Nat) (Option.some (Jvm.ClassFile.FieldType.array Jvm.ClassFile.FieldType.byte)), Jvm.Cond.code ({ cls := "java/lang/String", name := "<init>", desc := "([BB)V" } : Jvm.MethodName) jdk_42_method_151_code (3 : Nat) (Option.none : Option Jvm.ClassFile.FieldType), Jvm.Cond.code ({ cls := "java/lang/Object", name := "<init>", desc := "()V" } : Jvm.MethodName) object_method_1_code (1 : Nat) (Option.none : Option Jvm.ClassFile.FieldType), Jvm.Cond.code ({ cls := "com/example/kette/kette/JsonObject", name := "walk", desc := "([Ljava/lang/String;ILjava/lang/Object;)I" } : Jvm.MethodName) prog_30_method_4_code (5 : Nat) (Option.some Jvm.ClassFile.FieldType.int), Jvm.Cond.code ({ cls := "java/lang/String", name := "equals", desc := "(Ljava/lang/Object;)Z" } : Jvm.MethodName) jdk_42_method_66_code (3 : Nat) (Option.some Jvm.ClassFile.FieldType.boolean), Jvm.Cond.code ({ cls := "java/lang/StringLatin1", name := "equals", desc := "([B[B)Z" } : Jvm.MethodName) jdk_43_method_13_code (3 : Nat) (Option.some Jvm.ClassFile.FieldType.boolean), Jvm.Cond.code ({ cls := "java/lang/Integer", name := "valueOf", desc := "(I)Ljava/lang/Integer;" } : Jvm.MethodName) jdk_33_method_22_code (1 : Nat) (Option.some (Jvm.ClassFile.FieldType.object "java/lang/Integer")), Jvm.Cond.code ({ cls := "java/lang/Integer", name := "<init>", desc := "(I)V" } : Jvm.MethodName) jdk_33_method_23_code (2 : Nat) (Option.none : Option Jvm.ClassFile.FieldType), Jvm.Cond.code ({ cls := "java/lang/Number", name := "<init>", desc := "()V" } : Jvm.MethodName) jdk_18_method_1_code (1 : Nat) (Option.none : Option Jvm.ClassFile.FieldType)]
set_option maxRecDepth 65536 in
theorem codes_eq : words1.filter isCode = codes1 := rfl
theorem w_codes : ∀ c ∈ words1.filter isCode, c.before args0 about1 = true := by
  rw [codes_eq]
  intro c hc
  simp only [codes1, List.mem_cons, List.not_mem_nil, or_false] at hc
  rcases hc with rfl | rfl | rfl | rfl | rfl | rfl | rfl | rfl | rfl | rfl | rfl | rfl
  · exact w_c0
  · exact w_c1
  · exact w_c2
  · exact w_c3
  · exact w_c4
  · exact w_c5
  · exact w_c6
  · exact w_c7
  · exact w_c8
  · exact w_c9
  · exact w_c10
  · exact w_c11
set_option maxRecDepth 65536 in
theorem w_t1 : (words1.take 24).all (fun c => isCode c || c.before args0 about1) = true := by decide +kernel
set_option maxRecDepth 65536 in
theorem w_t2 : ((words1.drop 24).take 24).all (fun c => isCode c || c.before args0 about1) = true := by decide +kernel
set_option maxRecDepth 65536 in
theorem w_t3 : ((words1.drop 24).drop 24).all (fun c => isCode c || c.before args0 about1) = true := by decide +kernel
theorem w_tables : (allAtoms (Jvm.Cond.code x code maxLocals ret :: tables_1)).before args0 about1 = true := by
  rw [allAtoms_all]
  show words1.all (fun c => c.before args0 about1) = true
  refine all_split ?_ w_codes
  rw [← List.take_append_drop 24 words1, List.all_append, w_t1, ← List.take_append_drop 24 (words1.drop 24), List.all_append, w_t2, w_t3]
  rfl
set_option maxRecDepth 65536 in
theorem w_rest : rest_1_c.before args0 about1 = true := by decide +kernel
set_option maxRecDepth 65536 in
theorem w_case : (Jvm.Cond.and given_1 narrow_1).before args0 about1 = true := by decide +kernel
theorem w_applies : (headSpec (Jvm.Cond.code x code maxLocals ret :: tables_1) room_1).applies x e0.platform about1 = true :=
  (Spec.applies_iff w_frames).mpr ⟨w_running, w_runnable, w_alone, w_named, w_hears, w_ripe, w_room, w_tables⟩
theorem atStart : AtStart classFile x code maxLocals ret World_1 tables_1 room_1 Calls_1 rest_1 Pre_1 launch0 p0 e0 about1 theMethod args0 below0 :=
  ⟨lists_1, trivial, launch0.admits_env _ _ _, launch0.least_env, fairChoices_fair.cas, fairChoices_fair.clock, w_frames, w_args, w_heap, w_applies, trivial, w_rest, w_case⟩
end start1
theorem witness_1 : WitnessClaimed_1 := ⟨start1.p0, start1.e0, start1.about1, start1.theMethod, start1.args0, start1.below0, start1.atStart⟩
end Jvm.Pilot.@@N@@
