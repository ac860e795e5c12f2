import JvmDerived
import JvmDerived.Pilot.@@N@@Statement
import JvmDerived.Pilot.@@N@@Code
set_option linter.unusedVariables false
set_option linter.unusedSimpArgs false
namespace Jvm.Pilot.@@N@@
open Jvm Jvm.ClassFile Sem Op Lib Jvm.Free Jvm.Stand Jvm.LawKit Jvm.RoadKit Bundle Jvm.Pilot.@@N@@.Jvm.D
section OwnKit
variable {p : Program} {l : Launch} {e : Env} {R : Room} {s : State} {m : MethodId} {args : Array Value} {below : List Frame} {meth : Method} {c : Code} {T : State} {locs : List Loc} {cells slots : Nat} {Z : State} {a0 : Array Value} {h : Heap} {Q : Option Value → Heap → List Loc → Prop} {kc ks : Nat}
/-- from the state F the run comes to its return, with what Q says -/
def OGo (p : Program) (e : Env) (below : List Frame) (s : State) (Q : Option Value → Heap → List Loc → Prop) (kc ks : Nat) (F : State) : Prop :=
  ∃ (s₂ : State) (o : Outcome), Steps p.tables e below F s₂ ∧ s₂.status = .running ∧ Ended s₂ below o ∧ ∃ v L, o = .returned v ∧ Q v s₂.heap L ∧ FrameEnd s o s₂ L kc ks
theorem OGo.step {F F' : State} (k : ∀ t, Steps p.tables e below F' t → Steps p.tables e below F t) (g : OGo p e below s Q kc ks F') : OGo p e below s Q kc ks F := by
  obtain ⟨s₂, o, h, r⟩ := g
  exact ⟨s₂, o, k _ h, r⟩
theorem OGo.retOut (X : Stand p l e R s m args below meth c T locs cells slots) (hx : p.tables.exec = Jvm.exec) (hlk : meth.locks = false) {pc : Nat} {Ls : Array Slot} {w : Value} {t : FieldType} {i : Instr} {rest : List Value} (hret : meth.sig.returnType = some t) (hn : narrow t w = w)
    (hi : (i = .ireturn ∧ (t = .int ∨ t = .boolean ∨ t = .byte ∨ t = .char ∨ t = .short) ∧ ∃ z, w = .int z) ∨ (i = .lreturn ∧ t = .long ∧ ∃ z, w = .long z) ∨ (i = .dreturn ∧ t = .double ∧ ∃ z, w = .double z) ∨ (i = .freturn ∧ t = .float ∧ ∃ z, w = .float z) ∨ (i = .areturn ∧ t.isReference = true ∧ w.isRef = true))
    (hd : decode c.code pc = .ok (i, 1)) (hQ : Q (some w) T.heap locs) (hc : cells ≤ kc) (hs : slots ≤ ks) : OGo p e below s Q kc ks (T.setTop (mkF m pc Ls (w :: rest))) := by
  obtain ⟨fs, hr, hrun, hended, hW, hsame⟩ := X.leave (v := some w) (fun h => by rw [hret] at h; cases h) hlk
  exact ⟨_, _, Jvm.RoadKit.retOut X hx hret hn hi hd hr, hrun, hended, _, _, rfl, hQ, ⟨_, rfl⟩, hW, hsame.mono hc hs⟩
theorem OGo.retI (X : Stand p l e R s m args below meth c T locs cells slots) (hx : p.tables.exec = Jvm.exec) (hlk : meth.locks = false) {pc : Nat} {Ls : Array Slot} {z : Int32} {rest : List Value} (hret : meth.sig.returnType = some .int) (hd : decode c.code pc = .ok (.ireturn, 1)) (hQ : Q (some (.int z)) T.heap locs) (hc : cells ≤ kc) (hs : slots ≤ ks) :
    OGo p e below s Q kc ks (T.setTop (mkF m pc Ls (.int z :: rest))) := OGo.retOut X hx hlk hret rfl (Or.inl ⟨rfl, Or.inl rfl, _, rfl⟩) hd hQ hc hs
theorem OGo.retJ (X : Stand p l e R s m args below meth c T locs cells slots) (hx : p.tables.exec = Jvm.exec) (hlk : meth.locks = false) {pc : Nat} {Ls : Array Slot} {z : Int64} {rest : List Value} (hret : meth.sig.returnType = some .long) (hd : decode c.code pc = .ok (.lreturn, 1)) (hQ : Q (some (.long z)) T.heap locs) (hc : cells ≤ kc) (hs : slots ≤ ks) :
    OGo p e below s Q kc ks (T.setTop (mkF m pc Ls (.long z :: rest))) := OGo.retOut X hx hlk hret rfl (Or.inr (Or.inl ⟨rfl, rfl, _, rfl⟩)) hd hQ hc hs
theorem OGo.retA (X : Stand p l e R s m args below meth c T locs cells slots) (hx : p.tables.exec = Jvm.exec) (hlk : meth.locks = false) {pc : Nat} {Ls : Array Slot} {w : Value} {t : FieldType} {rest : List Value} (hret : meth.sig.returnType = some t) (ht : t.isReference = true) (hw : w.isRef = true) (hn : narrow t w = w) (hd : decode c.code pc = .ok (.areturn, 1)) (hQ : Q (some w) T.heap locs) (hc : cells ≤ kc) (hs : slots ≤ ks) :
    OGo p e below s Q kc ks (T.setTop (mkF m pc Ls (w :: rest))) := OGo.retOut X hx hlk hret hn (Or.inr (Or.inr (Or.inr (Or.inr ⟨rfl, ht, hw⟩)))) hd hQ hc hs
theorem OGo.retZ (X : Stand p l e R s m args below meth c T locs cells slots) (hx : p.tables.exec = Jvm.exec) (hlk : meth.locks = false) {pc : Nat} {Ls : Array Slot} {z z' : Int32} {t : FieldType} {rest : List Value} (hret : meth.sig.returnType = some t) (ht : t = .boolean ∨ t = .byte ∨ t = .char ∨ t = .short) (hd : decode c.code pc = .ok (.ireturn, 1)) (hz : nar t z = z') (hQ : Q (some (.int z')) T.heap locs) (hc : cells ≤ kc) (hs : slots ≤ ks) :
    OGo p e below s Q kc ks (T.setTop (mkF m pc Ls (.int z :: rest))) := by
  subst hz
  obtain ⟨fs, hr, hrun, hended, hW, hsame⟩ := X.leave (v := some (.int (nar t z))) (fun h => by rw [hret] at h; cases h) hlk
  exact ⟨_, _, Jvm.RoadKit.retN X hx hret ht hd hr, hrun, hended, _, _, rfl, hQ, ⟨_, rfl⟩, hW, hsame.mono hc hs⟩
theorem OGo.retV (X : Stand p l e R s m args below meth c T locs cells slots) (hx : p.tables.exec = Jvm.exec) (hlk : meth.locks = false) {pc : Nat} {Ls : Array Slot} (hret : meth.sig.returnType = none) (hd : decode c.code pc = .ok (.return_, 1)) (hQ : Q none T.heap locs) (hc : cells ≤ kc) (hs : slots ≤ ks) :
    OGo p e below s Q kc ks (T.setTop (mkF m pc Ls [])) := by
  obtain ⟨fs, hr, hrun, hended, hW, hsame⟩ := X.leave (v := none) (fun _ => rfl) hlk
  exact ⟨_, _, X.returnOut hx hret hd hr, hrun, hended, _, _, rfl, hQ, ⟨_, rfl⟩, hW, hsame.mono hc hs⟩
/-- a body's contract -/
abbrev OCtr (l : Launch) (Z : State) (y : MethodName) (bytes : ByteArray) (maxL : Nat) (ret : Option FieldType) (ws : List Jvm.Cond) (rm : Room) (as' : Array Value) (h0 : Heap) (Q : Option Value → Heap → List Loc → Prop) : Prop :=
  MetFree l y (head1 (Jvm.Cond.code y bytes maxL ret :: ws) rm) (fun a U => a = as' ∧ Z.Warmed39 U.vm ∧ U.heap = h0) (fun _ _ _ _ _ => True) (fun _ U o U' => ∃ v L, o = .returned v ∧ Q v U'.heap L ∧ FrameEnd U o U' L rm.cells rm.slots)
theorem OCtr.of {y : MethodName} {bytes : ByteArray} {maxL : Nat} {ret : Option FieldType} {ws : List Jvm.Cond} {rm : Room} {as' : Array Value} (hp : plainFor y = true)
    (k : ∀ (p : Program) (e : Env) (s : State) (m : MethodId) (below : List Frame) (meth : Method) (c : Code) (s₁ : State), Stand p l e rm s m as' below meth c s₁ [] 0 0 → p.tables.exec = Jvm.exec → meth.locks = false → Z.Warmed39 s.vm → s.vm.findClass y.cls = some m.cls → meth.name = y.name → c.code = bytes → c.maxLocals = maxL → meth.sig.returnType = ret → s₁.heap = h →
      OGo p e below s Q rm.cells rm.slots (s₁.setTop (entryFrame m as' maxL))) : OCtr l Z y bytes maxL ret ws rm as' h Q := by
  refine MetFree.of_bodySF hp hisR ?_
  intro p e s m args below meth c s₁ Bd hml0 hP hK
  obtain ⟨rfl, hZ, hh⟩ := hP
  exact k p e s m below meth c s₁ (Stand.of_body Bd) Bd.exec Bd.notSynchronized hZ (findClass_of_methodNamed Bd.named) (name_of_methodNamed Bd.named Bd.method).1 Bd.bytes hml0 Bd.returns (by rw [← hh, Bd.state]; rfl)
/-- it returns w, and the heap is as it was -/
def OPure (w : Option Value) (h0 : Heap) (n0 : Nat) : Option Value → Heap → List Loc → Prop := fun v h L => v = w ∧ Fr n0 L ∧ h = h0
theorem OGo.callS (X : Stand p l e R s m args below meth c T locs cells slots) (hx : p.tables.exec = Jvm.exec) (hZ : Z.Warmed39 s.vm) {own : String} {index : Nat} {y : MethodName} {bytes : ByteArray} {maxL : Nat} {ret : Option FieldType} (hown : s.vm.findClass own = some m.cls)
    (wl : (Jvm.Cond.methodLink own index y).before a0 Z = true) (wst : (Jvm.Cond.static y).before a0 Z = true) (wi : (Jvm.Cond.initialized y.cls).before a0 Z = true) (wc : (Jvm.Cond.code y bytes maxL ret).before a0 Z = true) (hy : y.cls ≠ "java/lang/invoke/MethodHandle" ∧ y.cls ≠ "java/lang/invoke/VarHandle")
    {rm : Room} {as' : Array Value} {Q' : Option Value → Heap → List Loc → Prop} (hM : OCtr l Z y bytes maxL ret [] rm as' h Q') {W : Nat} (hf : rm.frames + 1 ≤ R.frames) (hl : W + (maxL + 11) + rm.locals ≤ R.locals)
    {g : JFrame} (hg : g.method = m) (hsize : g.locals.size = c.maxLocals) {argsL rest : List Value} (hlen : ∀ sig, parseMethodDescriptor y.desc = some sig → argsL.length = sig.parameters.length) (hstack : g.stack = argsL.reverse ++ rest) (hW : 2 * g.monitorRoom + (rest.map fun v => v.category).sum ≤ W) (hdg : decode c.code g.pc = .ok (.invokestatic index, 3))
    (ha : argsL.toArray = as') (e0 : T.heap = h) (hc : cells + rm.cells ≤ R.cells) (hs : slots + rm.slots ≤ R.slots)
    (k : ∀ (v : Option Value) (T' : State) (L' : List Loc), Stand p l e R s m args below meth c T' (locs ++ L') (cells + rm.cells) (slots + rm.slots) → Q' v T'.heap L' → OGo p e below s Q kc ks (T'.setTop { g with pc := g.pc + 3, stack := v.toList ++ rest })) : OGo p e below s Q kc ks (T.setTop g) := by
  obtain ⟨v, _, ⟨T', L', k', n'⟩, -, X', ⟨Lc, hQ, l', y', z'⟩, st⟩ := Jvm.LawKit.callS X hx hown (mvT hZ wl) (mvT hZ wst) (mvT hZ wi) (mvT hZ wc) hy (backOf (W := W) hM hZ wc wi hf hl) hg hsize hlen hstack hW hdg (fun _ _ => ⟨ha, e0, hc, hs⟩)
  dsimp only [Pt.U, Pt.locs, Pt.cells, Pt.slots] at X' l' y' z' st hQ
  subst l' y' z'
  exact OGo.step st (k v T' Lc X' hQ)
theorem OGo.callV (X : Stand p l e R s m args below meth c T locs cells slots) (hx : p.tables.exec = Jvm.exec) (hZ : Z.Warmed39 s.vm) {own C : String} {index : Nat} {y z : MethodName} {bytes : ByteArray} {maxL : Nat} {ret : Option FieldType} (hown : s.vm.findClass own = some m.cls)
    (wl : (Jvm.Cond.methodLink own index y).before a0 Z = true) (wd : (Jvm.Cond.declares y).before a0 Z = true) (hnf : NotFace s y) (wsel : (Jvm.Cond.selects C y z).before a0 Z = true) (win : (Jvm.Cond.instanceMethod z).before a0 Z = true) (wi : (Jvm.Cond.initialized z.cls).before a0 Z = true) (wc : (Jvm.Cond.code z bytes maxL ret).before a0 Z = true) (hy : y.cls ≠ "java/lang/invoke/MethodHandle" ∧ y.cls ≠ "java/lang/invoke/VarHandle")
    {rm : Room} {as' : Array Value} {Q' : Option Value → Heap → List Loc → Prop} (hM : OCtr l Z z bytes maxL ret [] rm as' h Q') {W : Nat} (hf : rm.frames + 1 ≤ R.frames) (hl : W + (maxL + 11) + rm.locals ≤ R.locals) {b : Addr} (E : Exa Z h b C)
    {g : JFrame} (hg : g.method = m) (hsize : g.locals.size = c.maxLocals) {argsL rest : List Value} (hlen : ∀ sig, parseMethodDescriptor y.desc = some sig → argsL.length = sig.parameters.length) (hstack : g.stack = argsL.reverse ++ .ref b :: rest) (hW : 2 * g.monitorRoom + (rest.map fun v => v.category).sum ≤ W) (hdg : decode c.code g.pc = .ok (.invokevirtual index, 3))
    (ha : (.ref b :: argsL).toArray = as') (e0 : T.heap = h) (hc : cells + rm.cells ≤ R.cells) (hs : slots + rm.slots ≤ R.slots)
    (k : ∀ (v : Option Value) (T' : State) (L' : List Loc), Stand p l e R s m args below meth c T' (locs ++ L') (cells + rm.cells) (slots + rm.slots) → Q' v T'.heap L' → OGo p e below s Q kc ks (T'.setTop { g with pc := g.pc + 3, stack := v.toList ++ rest })) : OGo p e below s Q kc ks (T.setTop g) := by
  obtain ⟨cq, kq, q1, q2, q3⟩ := isOf hZ e0 E
  obtain ⟨v, _, ⟨T', L', k', n'⟩, -, X', ⟨Lc, hQ, l', y', z'⟩, st⟩ := X.virtualBack hx hown (mvT hZ wl) (mvT hZ wd) hnf (mvT hZ wsel) (mvT hZ win) hy (backOf (W := W) hM hZ wc wi hf hl) q1 q3 hg hsize (Steps.refl _) hlen hstack hW hdg (fun _ _ => ⟨ha, e0, hc, hs⟩)
  dsimp only [Pt.U, Pt.locs, Pt.cells, Pt.slots] at X' l' y' z' st hQ
  subst l' y' z'
  exact OGo.step (fun t q => st.trans q) (k v T' Lc X' hQ)
theorem OGo.callC (X : Stand p l e R s m args below meth c T locs cells slots) (hx : p.tables.exec = Jvm.exec) (hZ : Z.Warmed39 s.vm) {own : String} {index : Nat} {y : MethodName} {bytes : ByteArray} {maxL : Nat} (hy1 : y.name = "<init>") (hown : s.vm.findClass own = some m.cls)
    (wl : (Jvm.Cond.methodLink own index y).before a0 Z = true) (win : (Jvm.Cond.instanceMethod y).before a0 Z = true) (wi : (Jvm.Cond.initialized y.cls).before a0 Z = true) (wc : (Jvm.Cond.code y bytes maxL none).before a0 Z = true) (hy : y.cls ≠ "java/lang/invoke/MethodHandle" ∧ y.cls ≠ "java/lang/invoke/VarHandle")
    {rm : Room} {as' : Array Value} {Q' : Option Value → Heap → List Loc → Prop} (hM : OCtr l Z y bytes maxL none [] rm as' h Q') {W : Nat} (hf : rm.frames + 1 ≤ R.frames) (hl : W + (maxL + 11) + rm.locals ≤ R.locals) {b : Addr}
    {g : JFrame} (hg : g.method = m) (hsize : g.locals.size = c.maxLocals) {argsL rest : List Value} (hlen : ∀ sig, parseMethodDescriptor y.desc = some sig → argsL.length = sig.parameters.length) (hstack : g.stack = argsL.reverse ++ .ref b :: rest) (hW : 2 * g.monitorRoom + (rest.map fun v => v.category).sum ≤ W) (hdg : decode c.code g.pc = .ok (.invokespecial index, 3))
    (ha : (.ref b :: argsL).toArray = as') (e0 : T.heap = h) (hc : cells + rm.cells ≤ R.cells) (hs : slots + rm.slots ≤ R.slots)
    (k : ∀ (v : Option Value) (T' : State) (L' : List Loc), Stand p l e R s m args below meth c T' (locs ++ L') (cells + rm.cells) (slots + rm.slots) → Q' v T'.heap L' → OGo p e below s Q kc ks (T'.setTop { g with pc := g.pc + 3, stack := v.toList ++ rest })) : OGo p e below s Q kc ks (T.setTop g) := by
  obtain ⟨v, _, ⟨T', L', k', n'⟩, -, X', ⟨Lc, hQ, l', y', z'⟩, st⟩ := X.specialBack hx hy1 hown (mvT hZ wl) (mvT hZ win) (mvT hZ wc) hy (backOf (W := W) hM hZ wc wi hf hl) hg hsize (Steps.refl _) hlen hstack hW hdg (fun _ _ => ⟨ha, e0, hc, hs⟩)
  dsimp only [Pt.U, Pt.locs, Pt.cells, Pt.slots] at X' l' y' z' st hQ
  subst l' y' z'
  exact OGo.step (fun t q => st.trans q) (k v T' Lc X' hQ)
theorem own_wd (hw : ∀ d ∈ tables_1, d.before a0 Z = true) (i : Nat) {d : Jvm.Cond} (q : tables_1[i]? = some d) : d.before a0 Z = true := hw _ (List.mem_of_getElem? q)
theorem own_narc (x : Int32) : nar .char (x.toUInt32.toUInt16.toUInt32.toInt32) = x.toUInt32.toUInt16.toUInt32.toInt32 := by
  show x.toUInt32.toUInt16.toUInt32.toInt32.toUInt32.toUInt16.toUInt32.toInt32 = _
  simp only [UInt32.toUInt32_toInt32, UInt16.toUInt16_toUInt32]
theorem own_obj {a : Addr} {C : String} (F : Exa Z h a C) : ∃ cell : Cell, h[a]? = some cell ∧ cell.vm.isStatics = false := by
  obtain ⟨cell, _, h1, -, -, h4, -⟩ := F; exact ⟨cell, h1, h4⟩
theorem own_stakeep {h' : Heap} {ws : List Addr} {C n d : String} {v : Value} (F : Sta Z h C n d v) (K : Keep h h' ws) (q : ∀ x ∈ ws, ∃ cell : Cell, h[x]? = some cell ∧ cell.vm.isStatics = false) : Sta Z h' C n d v := by
  obtain ⟨cf, i, k, f, st, cell, h1, h2, h3, h4, h5, h6, h7⟩ := F
  refine ⟨cf, i, k, f, st, cell, h1, h2, h3, h4, K.2.1 _ _ h5 fun hm => ?_, h6, h7⟩
  obtain ⟨c', g1, g2⟩ := q _ hm
  cases g1.symm.trans h5
  rw [h6] at g2; cases g2
end OwnKit
theorem own_eqi {args : Array Value} {Z : State} {t : Term} {k : Int32} (q : (Jvm.Cond.eq t (Term.int k)).value args Z none Z [] = some true) : t.eval args Z none [] Z = some (.int k) := by
  have e2 : (Term.int k).eval args Z none [] Z = some (.int k) := rfl
  simp only [Cond.value, e2] at q
  cases hf : t.eval args Z none [] Z with
  | none => simp [hf] at q
  | some v => cases v <;> simp [hf] at q <;> simp [q]
theorem own_fldR {args : Array Value} {Z : State} {t : Term} {a : Addr} {C n d : String} {v : Value} (ev : t.eval args Z none [] Z = some (.ref a)) (q : (Term.field t C n d).eval args Z none [] Z = some v) : Fld Z Z.heap a C n d v := by
  refine Fld.start ?_
  rw [← q]; simp [Term.eval, ev]
theorem own_lenz {args : Array Value} {Z : State} {t : Term} {a : Addr} {cl : Cell} {z : Int32} (ev : t.eval args Z none [] Z = some (.ref a)) (A : Z.arrayAt? a = some cl) (q : (Term.length t).eval args Z none [] Z = some (.int z)) : cl.slots.size < 2 ^ 31 ∧ cl.slots.size.toInt32 = z := by
  simp only [Term.eval, ev, A, Option.bind_eq_bind, Option.bind_some] at q
  split at q
  · rename_i h; simp only [Option.pure_def, Option.some.injEq, Value.int.injEq] at q; exact ⟨h, q⟩
  · cases q
theorem own_el {args : Array Value} {Z : State} {t : Term} {a : Addr} {cl : Cell} {k x : Int32} {j : Nat} (ev : t.eval args Z none [] Z = some (.ref a)) (A : Z.arrayAt? a = some cl) (q : (Term.elem t (Term.int k)).eval args Z none [] Z = some (.int x)) (hk : ¬ k < 0) (e : k.toNatClampNeg = j) : cl.slots[j]? = some (.int x) := by
  rw [← e, ← elem_f ev (Term.int_eval k) A hk]; exact q
/-! body 2: java/lang/Math.max:(II)I -/
theorem d2_0 : decode jdk_29_method_65_code 0 = .ok (.iload_n 0, 1) := by decide +kernel
theorem d2_1 : decode jdk_29_method_65_code 1 = .ok (.iload_n 1, 1) := by decide +kernel
theorem d2_2 : decode jdk_29_method_65_code 2 = .ok (.if_icmp .lt 7, 3) := by decide +kernel
theorem d2_5 : decode jdk_29_method_65_code 5 = .ok (.iload_n 0, 1) := by decide +kernel
theorem d2_6 : decode jdk_29_method_65_code 6 = .ok (.goto 4, 3) := by decide +kernel
theorem d2_9 : decode jdk_29_method_65_code 9 = .ok (.iload_n 1, 1) := by decide +kernel
theorem d2_10 : decode jdk_29_method_65_code 10 = .ok (.ireturn, 1) := by decide +kernel
theorem ef_2 (m : MethodId) (x0 : Int32) (x1 : Int32) : entryFrame m #[(.int x0), (.int x1)] 2 = mkF m 0 #[.val (.int x0), .val (.int x1)] [] := by first | (simp [entryFrame, mkF, argsToLocals, Value.category]; done) | rfl
def f2 (p0 : Int32) (p1 : Int32) : Int32 :=
  if p0 < p1 then p1
  else p0
set_option maxRecDepth 65536 in
set_option maxHeartbeats 40000000 in
theorem rm2 (l : Launch) (Z : State) (az : Array Value) (hw : ∀ d ∈ tables_1, d.before az Z = true) (ws : List Jvm.Cond) (p0 : Int32) (p1 : Int32) (h0 : Heap) (n0 : Nat) (Z0 : n0 ≤ h0.size) :
    OCtr l Z (⟨"java/lang/Math", "max", "(II)I"⟩ : MethodName) jdk_29_method_65_code 2 (some .int) ws ({ frames := 0, cells := 0, slots := 0, locals := 0 } : Room) #[(.int p0), (.int p1)] h0 (OPure (some (.int (f2 p0 p1))) h0 n0) := by
  refine OCtr.of (Jvm.Free.JP.mathPlain rfl (by decide +kernel)) ?_
  intro p e s m below meth c s₁ X0 hx hlk hZ hown0 hnm hby hml0 hret e0
  have hown : s.vm.findClass "java/lang/Math" = some m.cls := hown0
  have hml : c.maxLocals = 2 := hml0
  have N0 := Fr.nil n0
  refine OGo.step (fun t k => castTop (ef_2 m p0 p1) k) ?_
  refine OGo.step (F' := s₁.setTop (mkF m 2 #[.val (.int p0), .val (.int p1)] [(.int p1), (.int p0)])) (fun t kt => ?_) ?_
  · show Steps p.tables e below (s₁.setTop (mkF m 0 #[.val (.int p0), .val (.int p1)] [])) t
    refine XS.iloadN X0.here hx rfl (hb hby d2_0) rfl ?_
    show Steps p.tables e below (s₁.setTop (mkF m 1 #[.val (.int p0), .val (.int p1)] [(.int p0)])) t
    refine XS.iloadN X0.here hx rfl (hb hby d2_1) rfl ?_
    exact kt
  by_cases hc2 : p0 < p1
  · refine OGo.step (F' := s₁.setTop (mkF m 9 #[.val (.int p0), .val (.int p1)] [])) (fun t kt => ?_) ?_
    · show Steps p.tables e below (s₁.setTop (mkF m 2 #[.val (.int p0), .val (.int p1)] [(.int p1), (.int p0)])) t
      refine XS.icmpYes X0.here hx rfl (pc0 := 2) (pc' := 9) rfl (hb hby d2_2) rfl (tlt hc2).1 (by decide) (by decide) ?_
      exact kt
    refine OGo.step (F' := s₁.setTop (mkF m 10 #[.val (.int p0), .val (.int p1)] [(.int p1)])) (fun t kt => ?_) ?_
    · show Steps p.tables e below (s₁.setTop (mkF m 9 #[.val (.int p0), .val (.int p1)] [])) t
      refine XS.iloadN X0.here hx rfl (hb hby d2_9) rfl ?_
      exact kt
    refine OGo.retI X0 hx hlk hret (hb hby d2_10) ?_ (by decide) (by decide)
    exact ⟨(by rw [f2, if_pos hc2]), N0, e0⟩
  · refine OGo.step (F' := s₁.setTop (mkF m 5 #[.val (.int p0), .val (.int p1)] [])) (fun t kt => ?_) ?_
    · show Steps p.tables e below (s₁.setTop (mkF m 2 #[.val (.int p0), .val (.int p1)] [(.int p1), (.int p0)])) t
      refine XS.icmpNo X0.here hx rfl (hb hby d2_2) rfl (flt hc2).1 ?_
      exact kt
    refine OGo.step (F' := s₁.setTop (mkF m 10 #[.val (.int p0), .val (.int p1)] [(.int p0)])) (fun t kt => ?_) ?_
    · show Steps p.tables e below (s₁.setTop (mkF m 5 #[.val (.int p0), .val (.int p1)] [])) t
      refine XS.iloadN X0.here hx rfl (hb hby d2_5) rfl ?_
      show Steps p.tables e below (s₁.setTop (mkF m 6 #[.val (.int p0), .val (.int p1)] [(.int p0)])) t
      refine XS.goto X0.here hx rfl (pc0 := 6) (pc' := 10) rfl (hb hby d2_6) (by decide) (by decide) ?_
      exact kt
    refine OGo.retI X0 hx hlk hret (hb hby d2_10) ?_ (by decide) (by decide)
    exact ⟨(by rw [f2, if_neg hc2]), N0, e0⟩
/-! body 5: java/lang/Math.min:(II)I -/
theorem d5_0 : decode jdk_29_method_69_code 0 = .ok (.iload_n 0, 1) := by decide +kernel
theorem d5_1 : decode jdk_29_method_69_code 1 = .ok (.iload_n 1, 1) := by decide +kernel
theorem d5_2 : decode jdk_29_method_69_code 2 = .ok (.if_icmp .gt 7, 3) := by decide +kernel
theorem d5_5 : decode jdk_29_method_69_code 5 = .ok (.iload_n 0, 1) := by decide +kernel
theorem d5_6 : decode jdk_29_method_69_code 6 = .ok (.goto 4, 3) := by decide +kernel
theorem d5_9 : decode jdk_29_method_69_code 9 = .ok (.iload_n 1, 1) := by decide +kernel
theorem d5_10 : decode jdk_29_method_69_code 10 = .ok (.ireturn, 1) := by decide +kernel
theorem ef_5 (m : MethodId) (x0 : Int32) (x1 : Int32) : entryFrame m #[(.int x0), (.int x1)] 2 = mkF m 0 #[.val (.int x0), .val (.int x1)] [] := by first | (simp [entryFrame, mkF, argsToLocals, Value.category]; done) | rfl
def f5 (p0 : Int32) (p1 : Int32) : Int32 :=
  if p1 < p0 then p1
  else p0
set_option maxRecDepth 65536 in
set_option maxHeartbeats 40000000 in
theorem rm5 (l : Launch) (Z : State) (az : Array Value) (hw : ∀ d ∈ tables_1, d.before az Z = true) (ws : List Jvm.Cond) (p0 : Int32) (p1 : Int32) (h0 : Heap) (n0 : Nat) (Z0 : n0 ≤ h0.size) :
    OCtr l Z (⟨"java/lang/Math", "min", "(II)I"⟩ : MethodName) jdk_29_method_69_code 2 (some .int) ws ({ frames := 0, cells := 0, slots := 0, locals := 0 } : Room) #[(.int p0), (.int p1)] h0 (OPure (some (.int (f5 p0 p1))) h0 n0) := by
  refine OCtr.of (Jvm.Free.JP.mathPlain rfl (by decide +kernel)) ?_
  intro p e s m below meth c s₁ X0 hx hlk hZ hown0 hnm hby hml0 hret e0
  have hown : s.vm.findClass "java/lang/Math" = some m.cls := hown0
  have hml : c.maxLocals = 2 := hml0
  have N0 := Fr.nil n0
  refine OGo.step (fun t k => castTop (ef_5 m p0 p1) k) ?_
  refine OGo.step (F' := s₁.setTop (mkF m 2 #[.val (.int p0), .val (.int p1)] [(.int p1), (.int p0)])) (fun t kt => ?_) ?_
  · show Steps p.tables e below (s₁.setTop (mkF m 0 #[.val (.int p0), .val (.int p1)] [])) t
    refine XS.iloadN X0.here hx rfl (hb hby d5_0) rfl ?_
    show Steps p.tables e below (s₁.setTop (mkF m 1 #[.val (.int p0), .val (.int p1)] [(.int p0)])) t
    refine XS.iloadN X0.here hx rfl (hb hby d5_1) rfl ?_
    exact kt
  by_cases hc2 : p1 < p0
  · refine OGo.step (F' := s₁.setTop (mkF m 9 #[.val (.int p0), .val (.int p1)] [])) (fun t kt => ?_) ?_
    · show Steps p.tables e below (s₁.setTop (mkF m 2 #[.val (.int p0), .val (.int p1)] [(.int p1), (.int p0)])) t
      refine XS.icmpYes X0.here hx rfl (pc0 := 2) (pc' := 9) rfl (hb hby d5_2) rfl (tlt hc2).2.2.1 (by decide) (by decide) ?_
      exact kt
    refine OGo.step (F' := s₁.setTop (mkF m 10 #[.val (.int p0), .val (.int p1)] [(.int p1)])) (fun t kt => ?_) ?_
    · show Steps p.tables e below (s₁.setTop (mkF m 9 #[.val (.int p0), .val (.int p1)] [])) t
      refine XS.iloadN X0.here hx rfl (hb hby d5_9) rfl ?_
      exact kt
    refine OGo.retI X0 hx hlk hret (hb hby d5_10) ?_ (by decide) (by decide)
    exact ⟨(by rw [f5, if_pos hc2]), N0, e0⟩
  · refine OGo.step (F' := s₁.setTop (mkF m 5 #[.val (.int p0), .val (.int p1)] [])) (fun t kt => ?_) ?_
    · show Steps p.tables e below (s₁.setTop (mkF m 2 #[.val (.int p0), .val (.int p1)] [(.int p1), (.int p0)])) t
      refine XS.icmpNo X0.here hx rfl (hb hby d5_2) rfl (flt hc2).2.2.1 ?_
      exact kt
    refine OGo.step (F' := s₁.setTop (mkF m 10 #[.val (.int p0), .val (.int p1)] [(.int p0)])) (fun t kt => ?_) ?_
    · show Steps p.tables e below (s₁.setTop (mkF m 5 #[.val (.int p0), .val (.int p1)] [])) t
      refine XS.iloadN X0.here hx rfl (hb hby d5_5) rfl ?_
      show Steps p.tables e below (s₁.setTop (mkF m 6 #[.val (.int p0), .val (.int p1)] [(.int p0)])) t
      refine XS.goto X0.here hx rfl (pc0 := 6) (pc' := 10) rfl (hb hby d5_6) (by decide) (by decide) ?_
      exact kt
    refine OGo.retI X0 hx hlk hret (hb hby d5_10) ?_ (by decide) (by decide)
    exact ⟨(by rw [f5, if_neg hc2]), N0, e0⟩
/-! body 1: com/example/harlow/harlow/core/topology/NodePairEqualsPinLaw.node:(I)I -/
theorem d1_0 : decode method_2_code 0 = .ok (.iconst 1, 1) := by decide +kernel
theorem d1_1 : decode method_2_code 1 = .ok (.iload_n 0, 1) := by decide +kernel
theorem d1_2 : decode method_2_code 2 = .ok (.ldc 7, 2) := by decide +kernel
theorem d1_4 : decode method_2_code 4 = .ok (.iand, 1) := by decide +kernel
theorem d1_5 : decode method_2_code 5 = .ok (.invokestatic 8, 3) := by decide +kernel
theorem d1_8 : decode method_2_code 8 = .ok (.ireturn, 1) := by decide +kernel
theorem pn_1 : plainName "com/example/harlow/harlow/core/topology/NodePairEqualsPinLaw" = true := by first | (simp [plainName, overriddenIn]; done) | decide +kernel
theorem pd_1_0 : parseMethodDescriptor "(II)I" = some ⟨[.int, .int], some .int⟩ := by decide +kernel
theorem ef_1 (m : MethodId) (x0 : Int32) : entryFrame m #[(.int x0)] 1 = mkF m 0 #[.val (.int x0)] [] := by first | (simp [entryFrame, mkF, argsToLocals, Value.category]; done) | rfl
def f1 (p0 : Int32) : Int32 :=
  (f2 (1 : Int32) (p0 &&& (2147483647 : Int32)))
set_option maxRecDepth 65536 in
set_option maxHeartbeats 40000000 in
theorem rm1 (l : Launch) (Z : State) (az : Array Value) (hw : ∀ d ∈ tables_1, d.before az Z = true) (ws : List Jvm.Cond) (p0 : Int32) (h0 : Heap) (n0 : Nat) (Z0 : n0 ≤ h0.size) :
    OCtr l Z (⟨"com/example/harlow/harlow/core/topology/NodePairEqualsPinLaw", "node", "(I)I"⟩ : MethodName) method_2_code 1 (some .int) ws ({ frames := 1, cells := 0, slots := 0, locals := 13 } : Room) #[(.int p0)] h0 (OPure (some (.int (f1 p0))) h0 n0) := by
  refine OCtr.of (plainFor_of_name pn_1) ?_
  intro p e s m below meth c s₁ X0 hx hlk hZ hown0 hnm hby hml0 hret e0
  have hown : s.vm.findClass "com/example/harlow/harlow/core/topology/NodePairEqualsPinLaw" = some m.cls := hown0
  have hml : c.maxLocals = 1 := hml0
  have N0 := Fr.nil n0
  refine OGo.step (fun t k => castTop (ef_1 m p0) k) ?_
  refine OGo.step (F' := s₁.setTop (mkF m 5 #[.val (.int p0)] [(.int (p0 &&& (2147483647 : Int32))), (.int (1 : Int32))])) (fun t kt => ?_) ?_
  · show Steps p.tables e below (s₁.setTop (mkF m 0 #[.val (.int p0)] [])) t
    refine XS.iconst X0.here hx rfl (hb hby d1_0) ?_
    show Steps p.tables e below (s₁.setTop (mkF m 1 #[.val (.int p0)] [(.int (1 : Int32))])) t
    refine XS.iloadN X0.here hx rfl (hb hby d1_1) rfl ?_
    show Steps p.tables e below (s₁.setTop (mkF m 2 #[.val (.int p0)] [(.int p0), (.int (1 : Int32))])) t
    refine X0.ldcInt hx hown (mvT hZ (own_wd hw 4 rfl)) (g := (mkF m 2 #[.val (.int p0)] [(.int p0), (.int (1 : Int32))])) rfl (hb hby d1_2) _ ?_
    show Steps p.tables e below (s₁.setTop (mkF m 4 #[.val (.int p0)] [(.int (2147483647 : Int32)), (.int p0), (.int (1 : Int32))])) t
    refine XS.iand X0.here hx rfl (hb hby d1_4) rfl ?_
    exact kt
  refine OGo.callS X0 hx hZ (y := (⟨"java/lang/Math", "max", "(II)I"⟩ : MethodName)) hown (own_wd hw 5 rfl) (own_wd hw 6 rfl) (own_wd hw 7 rfl) (own_wd hw 8 rfl) (by decide) (rm2 l Z az hw [] (1 : Int32) (p0 &&& (2147483647 : Int32)) h0 n0 Z0) (W := 0) (by decide) (by decide) (g := (mkF m 5 #[.val (.int p0)] [(.int (p0 &&& (2147483647 : Int32))), (.int (1 : Int32))])) rfl (by rw [hml]; rfl) (argsL := [(.int (1 : Int32)), (.int (p0 &&& (2147483647 : Int32)))]) (rest := []) (lenOf pd_1_0 rfl) rfl (by show 2 * 0 + _ ≤ _; exact Nat.le_of_eq rfl) (hb hby d1_5) rfl e0 (by decide) (by decide) ?_
  rintro _ T1 L1 X1 ⟨rfl, Nq1, e1⟩
  have N1 := Fr.app N0 Nq1
  show OGo _ _ _ _ _ _ _ (T1.setTop (mkF m 8 #[.val (.int p0)] [(.int (f2 (1 : Int32) (p0 &&& (2147483647 : Int32))))]))
  refine OGo.retI X1 hx hlk hret (hb hby d1_8) ?_ (by decide) (by decide)
  exact ⟨(by rw [f1]), N1, e1⟩
/-! body 3: com/example/harlow/harlow/core/topology/NodePair.<init>:(II)V -/
theorem d3_0 : decode prog_20_method_1_code 0 = .ok (.aload_n 0, 1) := by decide +kernel
theorem d3_1 : decode prog_20_method_1_code 1 = .ok (.invokespecial 1, 3) := by decide +kernel
theorem d3_4 : decode prog_20_method_1_code 4 = .ok (.iload_n 1, 1) := by decide +kernel
theorem d3_5 : decode prog_20_method_1_code 5 = .ok (.iconst 1, 1) := by decide +kernel
theorem d3_6 : decode prog_20_method_1_code 6 = .ok (.if_icmp .lt 13, 3) := by decide +kernel
theorem d3_9 : decode prog_20_method_1_code 9 = .ok (.iload_n 2, 1) := by decide +kernel
theorem d3_10 : decode prog_20_method_1_code 10 = .ok (.iconst 1, 1) := by decide +kernel
theorem d3_11 : decode prog_20_method_1_code 11 = .ok (.if_icmp .lt 8, 3) := by decide +kernel
theorem d3_14 : decode prog_20_method_1_code 14 = .ok (.iload_n 1, 1) := by decide +kernel
theorem d3_15 : decode prog_20_method_1_code 15 = .ok (.iload_n 2, 1) := by decide +kernel
theorem d3_16 : decode prog_20_method_1_code 16 = .ok (.if_icmp .ne 18, 3) := by decide +kernel
theorem d3_34 : decode prog_20_method_1_code 34 = .ok (.aload_n 0, 1) := by decide +kernel
theorem d3_35 : decode prog_20_method_1_code 35 = .ok (.iload_n 1, 1) := by decide +kernel
theorem d3_36 : decode prog_20_method_1_code 36 = .ok (.iload_n 2, 1) := by decide +kernel
theorem d3_37 : decode prog_20_method_1_code 37 = .ok (.invokestatic 16, 3) := by decide +kernel
theorem d3_40 : decode prog_20_method_1_code 40 = .ok (.putfield 22, 3) := by decide +kernel
theorem d3_43 : decode prog_20_method_1_code 43 = .ok (.aload_n 0, 1) := by decide +kernel
theorem d3_44 : decode prog_20_method_1_code 44 = .ok (.iload_n 1, 1) := by decide +kernel
theorem d3_45 : decode prog_20_method_1_code 45 = .ok (.iload_n 2, 1) := by decide +kernel
theorem d3_46 : decode prog_20_method_1_code 46 = .ok (.invokestatic 28, 3) := by decide +kernel
theorem d3_49 : decode prog_20_method_1_code 49 = .ok (.putfield 31, 3) := by decide +kernel
theorem d3_52 : decode prog_20_method_1_code 52 = .ok (.return_, 1) := by decide +kernel
theorem pn_3 : plainName "com/example/harlow/harlow/core/topology/NodePair" = true := by first | (simp [plainName, overriddenIn]; done) | decide +kernel
theorem pd_3_0 : parseMethodDescriptor "(II)I" = some ⟨[.int, .int], some .int⟩ := by decide +kernel
theorem ef_3 (m : MethodId) (x0 : Addr) (x1 : Int32) (x2 : Int32) : entryFrame m #[(.ref x0), (.int x1), (.int x2)] 3 = mkF m 0 #[.val (.ref x0), .val (.int x1), .val (.int x2)] [] := by first | (simp [entryFrame, mkF, argsToLocals, Value.category]; done) | rfl
def Q3 (Z : State) (a0 : Addr) (p1 : Int32) (p2 : Int32) (u_lower_a0 : Value) (u_higher_a0 : Value) (h0 : Heap) (n0 : Nat) (v : Option Value) (h : Heap) (L : List Loc) : Prop := v = none ∧ Fr n0 L ∧ Keep h0 h [a0] ∧ Exa Z h a0 "com/example/harlow/harlow/core/topology/NodePair" ∧ Fld Z h a0 "com/example/harlow/harlow/core/topology/NodePair" "lower" "I" (.int (f5 p1 p2)) ∧ Fld Z h a0 "com/example/harlow/harlow/core/topology/NodePair" "higher" "I" (.int (f2 p1 p2))
set_option maxRecDepth 65536 in
set_option maxHeartbeats 40000000 in
theorem rm3 (l : Launch) (Z : State) (az : Array Value) (hw : ∀ d ∈ tables_1, d.before az Z = true) (ws : List Jvm.Cond) (a0 : Addr) (p1 : Int32) (p2 : Int32) (u_lower_a0 : Value) (u_higher_a0 : Value) (h0 : Heap) (n0 : Nat) (Z0 : n0 ≤ h0.size) (hA : ¬ (p1 < (1 : Int32))) (hB : ¬ (p2 < (1 : Int32))) (hN : ¬ (p1 = p2)) (E_a0 : Exa Z h0 a0 "com/example/harlow/harlow/core/topology/NodePair") (F_lower_a0 : Fld Z h0 a0 "com/example/harlow/harlow/core/topology/NodePair" "lower" "I" u_lower_a0) (gn_a0 : n0 ≤ a0) (F_higher_a0 : Fld Z h0 a0 "com/example/harlow/harlow/core/topology/NodePair" "higher" "I" u_higher_a0) :
    OCtr l Z (⟨"com/example/harlow/harlow/core/topology/NodePair", "<init>", "(II)V"⟩ : MethodName) prog_20_method_1_code 3 none ws ({ frames := 1, cells := 0, slots := 0, locals := 14 } : Room) #[(.ref a0), (.int p1), (.int p2)] h0 (Q3 Z a0 p1 p2 u_lower_a0 u_higher_a0 h0 n0) := by
  refine OCtr.of (plainFor_of_name pn_3) ?_
  intro p e s m below meth c s₁ X0 hx hlk hZ hown0 hnm hby hml0 hret e0
  have hown : s.vm.findClass "com/example/harlow/harlow/core/topology/NodePair" = some m.cls := hown0
  have hml : c.maxLocals = 3 := hml0
  have N0 := Fr.nil n0
  refine OGo.step (fun t k => castTop (ef_3 m a0 p1 p2) k) ?_
  refine OGo.step (F' := s₁.setTop (mkF m 1 #[.val (.ref a0), .val (.int p1), .val (.int p2)] [(.ref a0)])) (fun t kt => ?_) ?_
  · show Steps p.tables e below (s₁.setTop (mkF m 0 #[.val (.ref a0), .val (.int p1), .val (.int p2)] [])) t
    refine XS.aloadN X0.here hx rfl (hb hby d3_0) rfl rfl ?_
    exact kt
  obtain ⟨T1, X1, e1, st1⟩ := initO X0 hx hZ hown (own_wd hw 15 rfl) (own_wd hw 16 rfl) (own_wd hw 17 rfl) e0 (g := (mkF m 1 #[.val (.ref a0), .val (.int p1), .val (.int p2)] [(.ref a0)])) rfl (by rw [hml]; rfl) rfl (hb hby d3_1) (by decide) (W := 0) (by show 2 * 0 + _ ≤ _; exact Nat.le_of_eq rfl) (by decide)
  refine OGo.step st1 ?_
  show OGo _ _ _ _ _ _ _ (T1.setTop (mkF m 4 #[.val (.ref a0), .val (.int p1), .val (.int p2)] []))
  refine OGo.step (F' := T1.setTop (mkF m 37 #[.val (.ref a0), .val (.int p1), .val (.int p2)] [(.int p2), (.int p1), (.ref a0)])) (fun t kt => ?_) ?_
  · show Steps p.tables e below (T1.setTop (mkF m 4 #[.val (.ref a0), .val (.int p1), .val (.int p2)] [])) t
    refine XS.iloadN X1.here hx rfl (hb hby d3_4) rfl ?_
    show Steps p.tables e below (T1.setTop (mkF m 5 #[.val (.ref a0), .val (.int p1), .val (.int p2)] [(.int p1)])) t
    refine XS.iconst X1.here hx rfl (hb hby d3_5) ?_
    show Steps p.tables e below (T1.setTop (mkF m 6 #[.val (.ref a0), .val (.int p1), .val (.int p2)] [(.int (1 : Int32)), (.int p1)])) t
    refine XS.icmpNo X1.here hx rfl (hb hby d3_6) rfl (flt hA).1 ?_
    show Steps p.tables e below (T1.setTop (mkF m 9 #[.val (.ref a0), .val (.int p1), .val (.int p2)] [])) t
    refine XS.iloadN X1.here hx rfl (hb hby d3_9) rfl ?_
    show Steps p.tables e below (T1.setTop (mkF m 10 #[.val (.ref a0), .val (.int p1), .val (.int p2)] [(.int p2)])) t
    refine XS.iconst X1.here hx rfl (hb hby d3_10) ?_
    show Steps p.tables e below (T1.setTop (mkF m 11 #[.val (.ref a0), .val (.int p1), .val (.int p2)] [(.int (1 : Int32)), (.int p2)])) t
    refine XS.icmpNo X1.here hx rfl (hb hby d3_11) rfl (flt hB).1 ?_
    show Steps p.tables e below (T1.setTop (mkF m 14 #[.val (.ref a0), .val (.int p1), .val (.int p2)] [])) t
    refine XS.iloadN X1.here hx rfl (hb hby d3_14) rfl ?_
    show Steps p.tables e below (T1.setTop (mkF m 15 #[.val (.ref a0), .val (.int p1), .val (.int p2)] [(.int p1)])) t
    refine XS.iloadN X1.here hx rfl (hb hby d3_15) rfl ?_
    show Steps p.tables e below (T1.setTop (mkF m 16 #[.val (.ref a0), .val (.int p1), .val (.int p2)] [(.int p2), (.int p1)])) t
    refine XS.icmpYes X1.here hx rfl (pc0 := 16) (pc' := 34) rfl (hb hby d3_16) rfl (feq hN).2 (by decide) (by decide) ?_
    show Steps p.tables e below (T1.setTop (mkF m 34 #[.val (.ref a0), .val (.int p1), .val (.int p2)] [])) t
    refine XS.aloadN X1.here hx rfl (hb hby d3_34) rfl rfl ?_
    show Steps p.tables e below (T1.setTop (mkF m 35 #[.val (.ref a0), .val (.int p1), .val (.int p2)] [(.ref a0)])) t
    refine XS.iloadN X1.here hx rfl (hb hby d3_35) rfl ?_
    show Steps p.tables e below (T1.setTop (mkF m 36 #[.val (.ref a0), .val (.int p1), .val (.int p2)] [(.int p1), (.ref a0)])) t
    refine XS.iloadN X1.here hx rfl (hb hby d3_36) rfl ?_
    exact kt
  refine OGo.callS X1 hx hZ (y := (⟨"java/lang/Math", "min", "(II)I"⟩ : MethodName)) hown (own_wd hw 18 rfl) (own_wd hw 19 rfl) (own_wd hw 7 rfl) (own_wd hw 20 rfl) (by decide) (rm5 l Z az hw [] p1 p2 h0 n0 Z0) (W := 1) (by decide) (by decide) (g := (mkF m 37 #[.val (.ref a0), .val (.int p1), .val (.int p2)] [(.int p2), (.int p1), (.ref a0)])) rfl (by rw [hml]; rfl) (argsL := [(.int p1), (.int p2)]) (rest := [(.ref a0)]) (lenOf pd_3_0 rfl) rfl (by show 2 * 0 + _ ≤ _; exact Nat.le_of_eq rfl) (hb hby d3_37) rfl e1 (by decide) (by decide) ?_
  rintro _ T2 L2 X2 ⟨rfl, Nq2, e2⟩
  have N2 := Fr.app N0 Nq2
  show OGo _ _ _ _ _ _ _ (T2.setTop (mkF m 40 #[.val (.ref a0), .val (.int p1), .val (.int p2)] [(.int (f5 p1 p2)), (.ref a0)]))
  obtain ⟨T3, h3, X3, e3, W3, st3⟩ := putF X2 hx hZ hown (host := "") (Or.inl (own_wd hw 21 rfl)) Via.refl e2 F_lower_a0 E_a0 (Or.inr ⟨(own_wd hw 22 rfl), rfl, hnm⟩) (own_wd hw 10 rfl) (ty := .int) (by decide) rfl rfl (g := (mkF m 40 #[.val (.ref a0), .val (.int p1), .val (.int p2)] [(.int (f5 p1 p2)), (.ref a0)])) rfl rfl (hb hby d3_40)
  have Fw3 : Fld Z h3 a0 "com/example/harlow/harlow/core/topology/NodePair" "lower" "I" (.int (f5 p1 p2)) := F_lower_a0.same W3
  have KC3 : Keep h0 h3 [a0] := (Keep.refl h0 [a0]).wr W3 (Or.inl (List.mem_of_getElem? (i := 0) rfl))
  have N3 := Fr.snoc X3 N2 gn_a0
  refine OGo.step st3 ?_
  show OGo _ _ _ _ _ _ _ (T3.setTop (mkF m 43 #[.val (.ref a0), .val (.int p1), .val (.int p2)] []))
  refine OGo.step (F' := T3.setTop (mkF m 46 #[.val (.ref a0), .val (.int p1), .val (.int p2)] [(.int p2), (.int p1), (.ref a0)])) (fun t kt => ?_) ?_
  · show Steps p.tables e below (T3.setTop (mkF m 43 #[.val (.ref a0), .val (.int p1), .val (.int p2)] [])) t
    refine XS.aloadN X3.here hx rfl (hb hby d3_43) rfl rfl ?_
    show Steps p.tables e below (T3.setTop (mkF m 44 #[.val (.ref a0), .val (.int p1), .val (.int p2)] [(.ref a0)])) t
    refine XS.iloadN X3.here hx rfl (hb hby d3_44) rfl ?_
    show Steps p.tables e below (T3.setTop (mkF m 45 #[.val (.ref a0), .val (.int p1), .val (.int p2)] [(.int p1), (.ref a0)])) t
    refine XS.iloadN X3.here hx rfl (hb hby d3_45) rfl ?_
    exact kt
  refine OGo.callS X3 hx hZ (y := (⟨"java/lang/Math", "max", "(II)I"⟩ : MethodName)) hown (own_wd hw 23 rfl) (own_wd hw 6 rfl) (own_wd hw 7 rfl) (own_wd hw 8 rfl) (by decide) (rm2 l Z az hw [] p1 p2 h3 n0 (Nat.le_trans Z0 KC3.1)) (W := 1) (by decide) (by decide) (g := (mkF m 46 #[.val (.ref a0), .val (.int p1), .val (.int p2)] [(.int p2), (.int p1), (.ref a0)])) rfl (by rw [hml]; rfl) (argsL := [(.int p1), (.int p2)]) (rest := [(.ref a0)]) (lenOf pd_3_0 rfl) rfl (by show 2 * 0 + _ ≤ _; exact Nat.le_of_eq rfl) (hb hby d3_46) rfl e3 (by decide) (by decide) ?_
  rintro _ T4 L4 X4 ⟨rfl, Nq4, e4⟩
  have N4 := Fr.app N3 Nq4
  show OGo _ _ _ _ _ _ _ (T4.setTop (mkF m 49 #[.val (.ref a0), .val (.int p1), .val (.int p2)] [(.int (f2 p1 p2)), (.ref a0)]))
  obtain ⟨T5, h5, X5, e5, W5, st5⟩ := putF X4 hx hZ hown (host := "") (Or.inl (own_wd hw 24 rfl)) Via.refl e4 (F_higher_a0.other W3 (Or.inr (slot_ne (a0 := az) (Or.inr (own_wd hw 25 rfl)) (Or.inr (own_wd hw 22 rfl)) (by decide) (t := .int) (t' := .int) (by decide) (by decide)))) (E_a0.wr W3) (Or.inr ⟨(own_wd hw 25 rfl), rfl, hnm⟩) (own_wd hw 10 rfl) (ty := .int) (by decide) rfl rfl (g := (mkF m 49 #[.val (.ref a0), .val (.int p1), .val (.int p2)] [(.int (f2 p1 p2)), (.ref a0)])) rfl rfl (hb hby d3_49)
  have Fw5 : Fld Z h5 a0 "com/example/harlow/harlow/core/topology/NodePair" "higher" "I" (.int (f2 p1 p2)) := (F_higher_a0.other W3 (Or.inr (slot_ne (a0 := az) (Or.inr (own_wd hw 25 rfl)) (Or.inr (own_wd hw 22 rfl)) (by decide) (t := .int) (t' := .int) (by decide) (by decide)))).same W5
  have KC5 : Keep h0 h5 [a0] := KC3.wr W5 (Or.inl (List.mem_of_getElem? (i := 0) rfl))
  have N5 := Fr.snoc X5 N4 gn_a0
  refine OGo.step st5 ?_
  show OGo _ _ _ _ _ _ _ (T5.setTop (mkF m 52 #[.val (.ref a0), .val (.int p1), .val (.int p2)] []))
  refine OGo.retV X5 hx hlk hret (hb hby d3_52) ?_ (by decide) (by decide)
  show Q3 Z a0 p1 p2 u_lower_a0 u_higher_a0 h0 n0 _ T5.heap _
  rw [e5]
  exact ⟨rfl, N5, KC5, ((E_a0.wr W3).wr W5), (Fw3.other W5 (Or.inr (slot_ne (a0 := az) (Or.inr (own_wd hw 22 rfl)) (Or.inr (own_wd hw 25 rfl)) (by decide) (t := .int) (t' := .int) (by decide) (by decide)))), Fw5⟩
/-! body 6: com/example/harlow/harlow/core/topology/NodePair.equals:(Ljava/lang/Object;)Z -/
theorem d6_0 : decode prog_20_method_5_code 0 = .ok (.aload_n 1, 1) := by decide +kernel
theorem d6_1 : decode prog_20_method_5_code 1 = .ok (.instanceof 23, 3) := by decide +kernel
theorem d6_4 : decode prog_20_method_5_code 4 = .ok (.ifCond .eq 34, 3) := by decide +kernel
theorem d6_7 : decode prog_20_method_5_code 7 = .ok (.aload_n 1, 1) := by decide +kernel
theorem d6_8 : decode prog_20_method_5_code 8 = .ok (.checkcast 23, 3) := by decide +kernel
theorem d6_11 : decode prog_20_method_5_code 11 = .ok (.astore_n 2, 1) := by decide +kernel
theorem d6_12 : decode prog_20_method_5_code 12 = .ok (.aload_n 2, 1) := by decide +kernel
theorem d6_13 : decode prog_20_method_5_code 13 = .ok (.getfield 22, 3) := by decide +kernel
theorem d6_16 : decode prog_20_method_5_code 16 = .ok (.aload_n 0, 1) := by decide +kernel
theorem d6_17 : decode prog_20_method_5_code 17 = .ok (.getfield 22, 3) := by decide +kernel
theorem d6_20 : decode prog_20_method_5_code 20 = .ok (.if_icmp .ne 18, 3) := by decide +kernel
theorem d6_23 : decode prog_20_method_5_code 23 = .ok (.aload_n 2, 1) := by decide +kernel
theorem d6_24 : decode prog_20_method_5_code 24 = .ok (.getfield 31, 3) := by decide +kernel
theorem d6_27 : decode prog_20_method_5_code 27 = .ok (.aload_n 0, 1) := by decide +kernel
theorem d6_28 : decode prog_20_method_5_code 28 = .ok (.getfield 31, 3) := by decide +kernel
theorem d6_31 : decode prog_20_method_5_code 31 = .ok (.if_icmp .ne 7, 3) := by decide +kernel
theorem d6_34 : decode prog_20_method_5_code 34 = .ok (.iconst 1, 1) := by decide +kernel
theorem d6_35 : decode prog_20_method_5_code 35 = .ok (.goto 4, 3) := by decide +kernel
theorem d6_38 : decode prog_20_method_5_code 38 = .ok (.iconst 0, 1) := by decide +kernel
theorem d6_39 : decode prog_20_method_5_code 39 = .ok (.ireturn, 1) := by decide +kernel
theorem pn_6 : plainName "com/example/harlow/harlow/core/topology/NodePair" = true := by first | (simp [plainName, overriddenIn]; done) | decide +kernel
theorem ef_6 (m : MethodId) (x0 : Addr) (x1 : Addr) : entryFrame m #[(.ref x0), (.ref x1)] 3 = mkF m 0 #[.val (.ref x0), .val (.ref x1), .unset] [] := by first | (simp [entryFrame, mkF, argsToLocals, Value.category]; done) | rfl
def f6 (w_lower_a1 : Int32) (w_lower_a0 : Int32) (w_higher_a1 : Int32) (w_higher_a0 : Int32) : Int32 :=
  if w_lower_a1 = w_lower_a0 then (if w_higher_a1 = w_higher_a0 then (1 : Int32)
    else (0 : Int32))
  else (0 : Int32)
theorem fb6 (w_lower_a1 : Int32) (w_lower_a0 : Int32) (w_higher_a1 : Int32) (w_higher_a0 : Int32) : nar .boolean (f6 w_lower_a1 w_lower_a0 w_higher_a1 w_higher_a0) = (f6 w_lower_a1 w_lower_a0 w_higher_a1 w_higher_a0) := by
  unfold f6
  repeat' split
  all_goals first | rfl | decide
set_option maxRecDepth 65536 in
set_option maxHeartbeats 40000000 in
theorem rm6 (l : Launch) (Z : State) (az : Array Value) (hw : ∀ d ∈ tables_1, d.before az Z = true) (ws : List Jvm.Cond) (a0 : Addr) (a1 : Addr) (w_lower_a1 : Int32) (w_lower_a0 : Int32) (w_higher_a1 : Int32) (w_higher_a0 : Int32) (h0 : Heap) (n0 : Nat) (Z0 : n0 ≤ h0.size) (E_a1 : Exa Z h0 a1 "com/example/harlow/harlow/core/topology/NodePair") (F_lower_a1 : Fld Z h0 a1 "com/example/harlow/harlow/core/topology/NodePair" "lower" "I" (.int w_lower_a1)) (F_lower_a0 : Fld Z h0 a0 "com/example/harlow/harlow/core/topology/NodePair" "lower" "I" (.int w_lower_a0)) (F_higher_a1 : Fld Z h0 a1 "com/example/harlow/harlow/core/topology/NodePair" "higher" "I" (.int w_higher_a1)) (F_higher_a0 : Fld Z h0 a0 "com/example/harlow/harlow/core/topology/NodePair" "higher" "I" (.int w_higher_a0)) :
    OCtr l Z (⟨"com/example/harlow/harlow/core/topology/NodePair", "equals", "(Ljava/lang/Object;)Z"⟩ : MethodName) prog_20_method_5_code 3 (some .boolean) ws ({ frames := 0, cells := 0, slots := 0, locals := 0 } : Room) #[(.ref a0), (.ref a1)] h0 (OPure (some (.int (f6 w_lower_a1 w_lower_a0 w_higher_a1 w_higher_a0))) h0 n0) := by
  refine OCtr.of (plainFor_of_name pn_6) ?_
  intro p e s m below meth c s₁ X0 hx hlk hZ hown0 hnm hby hml0 hret e0
  have hown : s.vm.findClass "com/example/harlow/harlow/core/topology/NodePair" = some m.cls := hown0
  have hml : c.maxLocals = 3 := hml0
  have N0 := Fr.nil n0
  refine OGo.step (fun t k => castTop (ef_6 m a0 a1) k) ?_
  refine OGo.step (F' := s₁.setTop (mkF m 1 #[.val (.ref a0), .val (.ref a1), .unset] [(.ref a1)])) (fun t kt => ?_) ?_
  · show Steps p.tables e below (s₁.setTop (mkF m 0 #[.val (.ref a0), .val (.ref a1), .unset] [])) t
    refine XS.aloadN X0.here hx rfl (hb hby d6_0) rfl rfl ?_
    exact kt
  obtain ⟨T1, X1, e1, st1⟩ := instY X0 hx hZ hown (own_wd hw 31 rfl) e0 (Ins.self E_a1) (g := (mkF m 1 #[.val (.ref a0), .val (.ref a1), .unset] [(.ref a1)])) rfl rfl (hb hby d6_1)
  refine OGo.step st1 ?_
  show OGo _ _ _ _ _ _ _ (T1.setTop (mkF m 4 #[.val (.ref a0), .val (.ref a1), .unset] [(.int (1 : Int32))]))
  refine OGo.step (F' := T1.setTop (mkF m 8 #[.val (.ref a0), .val (.ref a1), .unset] [(.ref a1)])) (fun t kt => ?_) ?_
  · show Steps p.tables e below (T1.setTop (mkF m 4 #[.val (.ref a0), .val (.ref a1), .unset] [(.int (1 : Int32))])) t
    refine XS.ifNo X1.here hx rfl (hb hby d6_4) rfl ((if0 _ _).trans (feq (by decide : ¬ ((1 : Int32) = (0 : Int32)))).1) ?_
    show Steps p.tables e below (T1.setTop (mkF m 7 #[.val (.ref a0), .val (.ref a1), .unset] [])) t
    refine XS.aloadN X1.here hx rfl (hb hby d6_7) rfl rfl ?_
    exact kt
  obtain ⟨T2, X2, e2, st2⟩ := castY X1 hx hZ hown (own_wd hw 31 rfl) e1 (Ins.self E_a1) (g := (mkF m 8 #[.val (.ref a0), .val (.ref a1), .unset] [(.ref a1)])) rfl rfl (hb hby d6_8)
  refine OGo.step st2 ?_
  show OGo _ _ _ _ _ _ _ (T2.setTop (mkF m 11 #[.val (.ref a0), .val (.ref a1), .unset] [(.ref a1)]))
  refine OGo.step (F' := T2.setTop (mkF m 13 #[.val (.ref a0), .val (.ref a1), .val (.ref a1)] [(.ref a1)])) (fun t kt => ?_) ?_
  · show Steps p.tables e below (T2.setTop (mkF m 11 #[.val (.ref a0), .val (.ref a1), .unset] [(.ref a1)])) t
    refine XS.astoreN X2.here hx rfl (hb hby d6_11) rfl rfl (l' := #[.val (.ref a0), .val (.ref a1), .val (.ref a1)]) rfl ?_
    show Steps p.tables e below (T2.setTop (mkF m 12 #[.val (.ref a0), .val (.ref a1), .val (.ref a1)] [])) t
    refine XS.aloadN X2.here hx rfl (hb hby d6_12) rfl rfl ?_
    exact kt
  obtain ⟨T3, X3, e3, st3⟩ := getF X2 hx hZ hown (host := "") (Or.inl (own_wd hw 21 rfl)) Via.refl e2 F_lower_a1 (g := (mkF m 13 #[.val (.ref a0), .val (.ref a1), .val (.ref a1)] [(.ref a1)])) rfl rfl (hb hby d6_13)
  refine OGo.step st3 ?_
  show OGo _ _ _ _ _ _ _ (T3.setTop (mkF m 16 #[.val (.ref a0), .val (.ref a1), .val (.ref a1)] [(.int w_lower_a1)]))
  refine OGo.step (F' := T3.setTop (mkF m 17 #[.val (.ref a0), .val (.ref a1), .val (.ref a1)] [(.ref a0), (.int w_lower_a1)])) (fun t kt => ?_) ?_
  · show Steps p.tables e below (T3.setTop (mkF m 16 #[.val (.ref a0), .val (.ref a1), .val (.ref a1)] [(.int w_lower_a1)])) t
    refine XS.aloadN X3.here hx rfl (hb hby d6_16) rfl rfl ?_
    exact kt
  obtain ⟨T4, X4, e4, st4⟩ := getF X3 hx hZ hown (host := "") (Or.inl (own_wd hw 21 rfl)) Via.refl e3 F_lower_a0 (g := (mkF m 17 #[.val (.ref a0), .val (.ref a1), .val (.ref a1)] [(.ref a0), (.int w_lower_a1)])) rfl rfl (hb hby d6_17)
  refine OGo.step st4 ?_
  show OGo _ _ _ _ _ _ _ (T4.setTop (mkF m 20 #[.val (.ref a0), .val (.ref a1), .val (.ref a1)] [(.int w_lower_a0), (.int w_lower_a1)]))
  by_cases hc20 : w_lower_a1 = w_lower_a0
  · refine OGo.step (F' := T4.setTop (mkF m 23 #[.val (.ref a0), .val (.ref a1), .val (.ref a1)] [])) (fun t kt => ?_) ?_
    · show Steps p.tables e below (T4.setTop (mkF m 20 #[.val (.ref a0), .val (.ref a1), .val (.ref a1)] [(.int w_lower_a0), (.int w_lower_a1)])) t
      refine XS.icmpNo X4.here hx rfl (hb hby d6_20) rfl (teq hc20).2 ?_
      exact kt
    refine OGo.step (F' := T4.setTop (mkF m 24 #[.val (.ref a0), .val (.ref a1), .val (.ref a1)] [(.ref a1)])) (fun t kt => ?_) ?_
    · show Steps p.tables e below (T4.setTop (mkF m 23 #[.val (.ref a0), .val (.ref a1), .val (.ref a1)] [])) t
      refine XS.aloadN X4.here hx rfl (hb hby d6_23) rfl rfl ?_
      exact kt
    obtain ⟨T5, X5, e5, st5⟩ := getF X4 hx hZ hown (host := "") (Or.inl (own_wd hw 24 rfl)) Via.refl e4 F_higher_a1 (g := (mkF m 24 #[.val (.ref a0), .val (.ref a1), .val (.ref a1)] [(.ref a1)])) rfl rfl (hb hby d6_24)
    refine OGo.step st5 ?_
    show OGo _ _ _ _ _ _ _ (T5.setTop (mkF m 27 #[.val (.ref a0), .val (.ref a1), .val (.ref a1)] [(.int w_higher_a1)]))
    refine OGo.step (F' := T5.setTop (mkF m 28 #[.val (.ref a0), .val (.ref a1), .val (.ref a1)] [(.ref a0), (.int w_higher_a1)])) (fun t kt => ?_) ?_
    · show Steps p.tables e below (T5.setTop (mkF m 27 #[.val (.ref a0), .val (.ref a1), .val (.ref a1)] [(.int w_higher_a1)])) t
      refine XS.aloadN X5.here hx rfl (hb hby d6_27) rfl rfl ?_
      exact kt
    obtain ⟨T6, X6, e6, st6⟩ := getF X5 hx hZ hown (host := "") (Or.inl (own_wd hw 24 rfl)) Via.refl e5 F_higher_a0 (g := (mkF m 28 #[.val (.ref a0), .val (.ref a1), .val (.ref a1)] [(.ref a0), (.int w_higher_a1)])) rfl rfl (hb hby d6_28)
    refine OGo.step st6 ?_
    show OGo _ _ _ _ _ _ _ (T6.setTop (mkF m 31 #[.val (.ref a0), .val (.ref a1), .val (.ref a1)] [(.int w_higher_a0), (.int w_higher_a1)]))
    by_cases hc31 : w_higher_a1 = w_higher_a0
    · refine OGo.step (F' := T6.setTop (mkF m 34 #[.val (.ref a0), .val (.ref a1), .val (.ref a1)] [])) (fun t kt => ?_) ?_
      · show Steps p.tables e below (T6.setTop (mkF m 31 #[.val (.ref a0), .val (.ref a1), .val (.ref a1)] [(.int w_higher_a0), (.int w_higher_a1)])) t
        refine XS.icmpNo X6.here hx rfl (hb hby d6_31) rfl (teq hc31).2 ?_
        exact kt
      refine OGo.step (F' := T6.setTop (mkF m 39 #[.val (.ref a0), .val (.ref a1), .val (.ref a1)] [(.int (1 : Int32))])) (fun t kt => ?_) ?_
      · show Steps p.tables e below (T6.setTop (mkF m 34 #[.val (.ref a0), .val (.ref a1), .val (.ref a1)] [])) t
        refine XS.iconst X6.here hx rfl (hb hby d6_34) ?_
        show Steps p.tables e below (T6.setTop (mkF m 35 #[.val (.ref a0), .val (.ref a1), .val (.ref a1)] [(.int (1 : Int32))])) t
        refine XS.goto X6.here hx rfl (pc0 := 35) (pc' := 39) rfl (hb hby d6_35) (by decide) (by decide) ?_
        exact kt
      refine OGo.retZ X6 hx hlk (t := .boolean) (z' := (1 : Int32)) hret (by simp) (hb hby d6_39) rfl ?_ (by decide) (by decide)
      exact ⟨(by rw [f6, if_pos hc20, if_pos hc31]), N0, e6⟩
    · refine OGo.step (F' := T6.setTop (mkF m 38 #[.val (.ref a0), .val (.ref a1), .val (.ref a1)] [])) (fun t kt => ?_) ?_
      · show Steps p.tables e below (T6.setTop (mkF m 31 #[.val (.ref a0), .val (.ref a1), .val (.ref a1)] [(.int w_higher_a0), (.int w_higher_a1)])) t
        refine XS.icmpYes X6.here hx rfl (pc0 := 31) (pc' := 38) rfl (hb hby d6_31) rfl (feq hc31).2 (by decide) (by decide) ?_
        exact kt
      refine OGo.step (F' := T6.setTop (mkF m 39 #[.val (.ref a0), .val (.ref a1), .val (.ref a1)] [(.int (0 : Int32))])) (fun t kt => ?_) ?_
      · show Steps p.tables e below (T6.setTop (mkF m 38 #[.val (.ref a0), .val (.ref a1), .val (.ref a1)] [])) t
        refine XS.iconst X6.here hx rfl (hb hby d6_38) ?_
        exact kt
      refine OGo.retZ X6 hx hlk (t := .boolean) (z' := (0 : Int32)) hret (by simp) (hb hby d6_39) rfl ?_ (by decide) (by decide)
      exact ⟨(by rw [f6, if_pos hc20, if_neg hc31]), N0, e6⟩
  · refine OGo.step (F' := T4.setTop (mkF m 38 #[.val (.ref a0), .val (.ref a1), .val (.ref a1)] [])) (fun t kt => ?_) ?_
    · show Steps p.tables e below (T4.setTop (mkF m 20 #[.val (.ref a0), .val (.ref a1), .val (.ref a1)] [(.int w_lower_a0), (.int w_lower_a1)])) t
      refine XS.icmpYes X4.here hx rfl (pc0 := 20) (pc' := 38) rfl (hb hby d6_20) rfl (feq hc20).2 (by decide) (by decide) ?_
      exact kt
    refine OGo.step (F' := T4.setTop (mkF m 39 #[.val (.ref a0), .val (.ref a1), .val (.ref a1)] [(.int (0 : Int32))])) (fun t kt => ?_) ?_
    · show Steps p.tables e below (T4.setTop (mkF m 38 #[.val (.ref a0), .val (.ref a1), .val (.ref a1)] [])) t
      refine XS.iconst X4.here hx rfl (hb hby d6_38) ?_
      exact kt
    refine OGo.retZ X4 hx hlk (t := .boolean) (z' := (0 : Int32)) hret (by simp) (hb hby d6_39) rfl ?_ (by decide) (by decide)
    exact ⟨(by rw [f6, if_neg hc20]), N0, e4⟩
/-! body 6: com/example/harlow/harlow/core/topology/NodePair.equals:(Ljava/lang/Object;)Z -/
theorem ef_6z (m : MethodId) (x0 : Addr) : entryFrame m #[(.ref x0), .null] 3 = mkF m 0 #[.val (.ref x0), .val .null, .unset] [] := by first | (simp [entryFrame, mkF, argsToLocals, Value.category]; done) | rfl
def f6z  : Int32 :=
  (0 : Int32)
theorem fb6z  : nar .boolean f6z = f6z := by
  unfold f6z
  repeat' split
  all_goals first | rfl | decide
set_option maxRecDepth 65536 in
set_option maxHeartbeats 40000000 in
theorem rm6z (l : Launch) (Z : State) (az : Array Value) (hw : ∀ d ∈ tables_1, d.before az Z = true) (ws : List Jvm.Cond) (a0 : Addr) (h0 : Heap) (n0 : Nat) (Z0 : n0 ≤ h0.size) :
    OCtr l Z (⟨"com/example/harlow/harlow/core/topology/NodePair", "equals", "(Ljava/lang/Object;)Z"⟩ : MethodName) prog_20_method_5_code 3 (some .boolean) ws ({ frames := 0, cells := 0, slots := 0, locals := 0 } : Room) #[(.ref a0), .null] h0 (OPure (some (.int f6z)) h0 n0) := by
  refine OCtr.of (plainFor_of_name pn_6) ?_
  intro p e s m below meth c s₁ X0 hx hlk hZ hown0 hnm hby hml0 hret e0
  have hown : s.vm.findClass "com/example/harlow/harlow/core/topology/NodePair" = some m.cls := hown0
  have hml : c.maxLocals = 3 := hml0
  have N0 := Fr.nil n0
  refine OGo.step (fun t k => castTop (ef_6z m a0) k) ?_
  refine OGo.step (F' := s₁.setTop (mkF m 1 #[.val (.ref a0), .val .null, .unset] [.null])) (fun t kt => ?_) ?_
  · show Steps p.tables e below (s₁.setTop (mkF m 0 #[.val (.ref a0), .val .null, .unset] [])) t
    refine XS.aloadN X0.here hx rfl (hb hby d6_0) rfl rfl ?_
    exact kt
  refine OGo.step (F' := s₁.setTop (mkF m 4 #[.val (.ref a0), .val .null, .unset] [(.int (0 : Int32))])) (fun t kt => ?_) ?_
  · show Steps p.tables e below (s₁.setTop (mkF m 1 #[.val (.ref a0), .val .null, .unset] [.null])) t
    refine X0.instanceofNull hx (g := (mkF m 1 #[.val (.ref a0), .val .null, .unset] [.null])) rfl rfl (hb hby d6_1) _ ?_
    exact kt
  refine OGo.step (F' := s₁.setTop (mkF m 39 #[.val (.ref a0), .val .null, .unset] [(.int (0 : Int32))])) (fun t kt => ?_) ?_
  · show Steps p.tables e below (s₁.setTop (mkF m 4 #[.val (.ref a0), .val .null, .unset] [(.int (0 : Int32))])) t
    refine XS.ifYes X0.here hx rfl (pc0 := 4) (pc' := 38) rfl (hb hby d6_4) rfl ((if0 _ _).trans (teq (by decide : (0 : Int32) = (0 : Int32))).1) (by decide) (by decide) ?_
    show Steps p.tables e below (s₁.setTop (mkF m 38 #[.val (.ref a0), .val .null, .unset] [])) t
    refine XS.iconst X0.here hx rfl (hb hby d6_38) ?_
    exact kt
  refine OGo.retZ X0 hx hlk (t := .boolean) (z' := (0 : Int32)) hret (by simp) (hb hby d6_39) rfl ?_ (by decide) (by decide)
  exact ⟨(by rw [f6z]), N0, e0⟩
theorem own_nosub (az : Array Value) (Z : State) (hw : ∀ d ∈ tables_1, d.before az Z = true) : ∃ c t, Z.vm.findClass "java/lang/Integer" = some c ∧ Z.vm.findClass "com/example/harlow/harlow/core/topology/NodePair" = some t ∧ Z.vm.assignable c t = false := by
  obtain ⟨t, k', g0, g2, g5, g7, -⟩ := Cond.instantiable_spec (own_wd hw 10 rfl)
  have gi : k'.isInterface = false := by revert g7; cases k'.isInterface <;> simp
  obtain ⟨co, ko, o1, o2, o3, -, -⟩ := Cond.noSuperclass_spec (own_wd hw 42 rfl)
  have neo := ids_ne o1 g0 (by decide)
  have so : ∀ fuel, Z.vm.isSubclassAux fuel co t = false := fun fuel => by
    cases fuel with
    | zero => rfl
    | succ f => simp [Vm.isSubclassAux, neo, o2, o3]
  obtain ⟨cn, n0⟩ := found_sup (C := "java/lang/Number") (S := "java/lang/Object") (own_wd hw 41 rfl)
  obtain ⟨pn, kn, kp, n1, n2, n3, n4, -⟩ := Cond.superclass_spec n0 ((own_wd hw 41 rfl) : (Jvm.Cond.superclass "java/lang/Number" "java/lang/Object").before az Z = true)
  cases o1.symm.trans n1
  have nen := ids_ne n0 g0 (by decide)
  have sn : ∀ fuel, Z.vm.isSubclassAux fuel cn t = false := fun fuel => by
    cases fuel with
    | zero => rfl
    | succ f => simp [Vm.isSubclassAux, nen, n2, n4, so]
  obtain ⟨ci, i0⟩ := found_sup (C := "java/lang/Integer") (S := "java/lang/Number") (own_wd hw 40 rfl)
  obtain ⟨pi, ki, kq, i1, i2, i3, i4, i5, -⟩ := Cond.superclass_spec i0 ((own_wd hw 40 rfl) : (Jvm.Cond.superclass "java/lang/Integer" "java/lang/Number").before az Z = true)
  cases n0.symm.trans i1
  have nei := ids_ne i0 g0 (by decide)
  have si : ∀ fuel, Z.vm.isSubclassAux fuel ci t = false := fun fuel => by
    cases fuel with
    | zero => rfl
    | succ f => simp [Vm.isSubclassAux, nei, i2, i4, sn]
  refine ⟨ci, t, i0, g0, ?_⟩
  show Z.vm.assignableAux (255 + 1) ci t = false
  simp [Vm.assignableAux, nei, i2, g2, i5, g5, gi, Vm.isSubclass, si]
/-! body 6: com/example/harlow/harlow/core/topology/NodePair.equals:(Ljava/lang/Object;)Z -/
theorem ef_6n (m : MethodId) (x0 : Addr) (x1 : Addr) : entryFrame m #[(.ref x0), (.ref x1)] 3 = mkF m 0 #[.val (.ref x0), .val (.ref x1), .unset] [] := by first | (simp [entryFrame, mkF, argsToLocals, Value.category]; done) | rfl
def f6n  : Int32 :=
  (0 : Int32)
theorem fb6n  : nar .boolean f6n = f6n := by
  unfold f6n
  repeat' split
  all_goals first | rfl | decide
set_option maxRecDepth 65536 in
set_option maxHeartbeats 40000000 in
theorem rm6n (l : Launch) (Z : State) (az : Array Value) (hw : ∀ d ∈ tables_1, d.before az Z = true) (ws : List Jvm.Cond) (a0 : Addr) (a1 : Addr) (h0 : Heap) (n0 : Nat) (Z0 : n0 ≤ h0.size) (E_a1 : Exa Z h0 a1 "java/lang/Integer") :
    OCtr l Z (⟨"com/example/harlow/harlow/core/topology/NodePair", "equals", "(Ljava/lang/Object;)Z"⟩ : MethodName) prog_20_method_5_code 3 (some .boolean) ws ({ frames := 0, cells := 0, slots := 0, locals := 0 } : Room) #[(.ref a0), (.ref a1)] h0 (OPure (some (.int f6n)) h0 n0) := by
  refine OCtr.of (plainFor_of_name pn_6) ?_
  intro p e s m below meth c s₁ X0 hx hlk hZ hown0 hnm hby hml0 hret e0
  have hown : s.vm.findClass "com/example/harlow/harlow/core/topology/NodePair" = some m.cls := hown0
  have hml : c.maxLocals = 3 := hml0
  have N0 := Fr.nil n0
  refine OGo.step (fun t k => castTop (ef_6n m a0 a1) k) ?_
  refine OGo.step (F' := s₁.setTop (mkF m 1 #[.val (.ref a0), .val (.ref a1), .unset] [(.ref a1)])) (fun t kt => ?_) ?_
  · show Steps p.tables e below (s₁.setTop (mkF m 0 #[.val (.ref a0), .val (.ref a1), .unset] [])) t
    refine XS.aloadN X0.here hx rfl (hb hby d6_0) rfl rfl ?_
    exact kt
  obtain ⟨T1, X1, e1, st1⟩ := instNo X0 hx hZ hown (own_wd hw 31 rfl) e0 E_a1 (own_nosub az Z hw) (g := (mkF m 1 #[.val (.ref a0), .val (.ref a1), .unset] [(.ref a1)])) rfl rfl (hb hby d6_1)
  refine OGo.step st1 ?_
  show OGo _ _ _ _ _ _ _ (T1.setTop (mkF m 4 #[.val (.ref a0), .val (.ref a1), .unset] [(.int (0 : Int32))]))
  refine OGo.step (F' := T1.setTop (mkF m 39 #[.val (.ref a0), .val (.ref a1), .unset] [(.int (0 : Int32))])) (fun t kt => ?_) ?_
  · show Steps p.tables e below (T1.setTop (mkF m 4 #[.val (.ref a0), .val (.ref a1), .unset] [(.int (0 : Int32))])) t
    refine XS.ifYes X1.here hx rfl (pc0 := 4) (pc' := 38) rfl (hb hby d6_4) rfl ((if0 _ _).trans (teq (by decide : (0 : Int32) = (0 : Int32))).1) (by decide) (by decide) ?_
    show Steps p.tables e below (T1.setTop (mkF m 38 #[.val (.ref a0), .val (.ref a1), .unset] [])) t
    refine XS.iconst X1.here hx rfl (hb hby d6_38) ?_
    exact kt
  refine OGo.retZ X1 hx hlk (t := .boolean) (z' := (0 : Int32)) hret (by simp) (hb hby d6_39) rfl ?_ (by decide) (by decide)
  exact ⟨(by rw [f6n]), N0, e1⟩
/-- the Integers that are kept -/
def OCache (Z : State) (h : Heap) (a : Addr) : Prop := ∃ cl : Cell, Arr Z h a cl (.object "java/lang/Integer") ∧ cl.slots.size = 256 ∧ ∀ j, j < 256 → ∃ r, cl.slots[j]? = some (.ref r) ∧ Exa Z h r "java/lang/Integer"
theorem OCache.lt {Z : State} {h : Heap} {a : Addr} (F : OCache Z h a) : a < h.size := by obtain ⟨cl, A, -⟩ := F; exact A.lt
theorem OCache.ext {Z : State} {h h' : Heap} {a : Addr} (F : OCache Z h a) (E : Ext h h') : OCache Z h' a := by
  obtain ⟨cl, A, z, q⟩ := F
  exact ⟨cl, A.ext E, z, fun j hj => by obtain ⟨r, h1, h2⟩ := q j hj; exact ⟨r, h1, h2.ext E⟩⟩
theorem OCache.keep {Z : State} {h h' : Heap} {a : Addr} {ws : List Addr} (F : OCache Z h a) (K : Keep h h' ws) (n : a ∉ ws) : OCache Z h' a := by
  obtain ⟨cl, A, z, q⟩ := F
  exact ⟨cl, ⟨K.2.1 a cl A.1 n, A.2⟩, z, fun j hj => by obtain ⟨r, h1, h2⟩ := q j hj; exact ⟨r, h1, h2.keep K⟩⟩
theorem own_ci {x : Int32} (h1 : ¬ (x < (-128 : Int32))) (h2 : ¬ ((127 : Int32) < x)) : ¬ ((x + (128 : Int32)) < 0) ∧ (x + (128 : Int32)).toNatClampNeg < 256 := by
  have c1 := c_iadd x (128 : Int32)
  have l2 := (x + (128 : Int32)).toInt_lt; have l3 := (x + (128 : Int32)).le_toInt
  simp only [Int32.lt_iff_toInt_lt, Int32.toNatClampNeg, Int32.reduceToInt] at *; omega
/-! body 9: java/lang/Number.<init>:()V -/
theorem d9_0 : decode jdk_18_method_1_code 0 = .ok (.aload_n 0, 1) := by decide +kernel
theorem d9_1 : decode jdk_18_method_1_code 1 = .ok (.invokespecial 1, 3) := by decide +kernel
theorem d9_4 : decode jdk_18_method_1_code 4 = .ok (.return_, 1) := by decide +kernel
theorem pn_9 : plainName "java/lang/Number" = true := by first | (simp [plainName, overriddenIn]; done) | decide +kernel
theorem ef_9 (m : MethodId) (x0 : Addr) : entryFrame m #[(.ref x0)] 1 = mkF m 0 #[.val (.ref x0)] [] := by first | (simp [entryFrame, mkF, argsToLocals, Value.category]; done) | rfl
set_option maxRecDepth 65536 in
set_option maxHeartbeats 40000000 in
theorem rm9 (l : Launch) (Z : State) (az : Array Value) (hw : ∀ d ∈ tables_1, d.before az Z = true) (ws : List Jvm.Cond) (a0 : Addr) (h0 : Heap) (n0 : Nat) (Z0 : n0 ≤ h0.size) :
    OCtr l Z (⟨"java/lang/Number", "<init>", "()V"⟩ : MethodName) jdk_18_method_1_code 1 none ws ({ frames := 1, cells := 0, slots := 0, locals := 12 } : Room) #[(.ref a0)] h0 (OPure none h0 n0) := by
  refine OCtr.of (plainFor_of_name pn_9) ?_
  intro p e s m below meth c s₁ X0 hx hlk hZ hown0 hnm hby hml0 hret e0
  have hown : s.vm.findClass "java/lang/Number" = some m.cls := hown0
  have hml : c.maxLocals = 1 := hml0
  have N0 := Fr.nil n0
  refine OGo.step (fun t k => castTop (ef_9 m a0) k) ?_
  refine OGo.step (F' := s₁.setTop (mkF m 1 #[.val (.ref a0)] [(.ref a0)])) (fun t kt => ?_) ?_
  · show Steps p.tables e below (s₁.setTop (mkF m 0 #[.val (.ref a0)] [])) t
    refine XS.aloadN X0.here hx rfl (hb hby d9_0) rfl rfl ?_
    exact kt
  obtain ⟨T1, X1, e1, st1⟩ := initO X0 hx hZ hown (own_wd hw 55 rfl) (own_wd hw 16 rfl) (own_wd hw 17 rfl) e0 (g := (mkF m 1 #[.val (.ref a0)] [(.ref a0)])) rfl (by rw [hml]; rfl) rfl (hb hby d9_1) (by decide) (W := 0) (by show 2 * 0 + _ ≤ _; exact Nat.le_of_eq rfl) (by decide)
  refine OGo.step st1 ?_
  show OGo _ _ _ _ _ _ _ (T1.setTop (mkF m 4 #[.val (.ref a0)] []))
  refine OGo.retV X1 hx hlk hret (hb hby d9_4) ?_ (by decide) (by decide)
  exact ⟨rfl, N0, e1⟩
/-! body 8: java/lang/Integer.<init>:(I)V -/
theorem d8_0 : decode jdk_33_method_23_code 0 = .ok (.aload_n 0, 1) := by decide +kernel
theorem d8_1 : decode jdk_33_method_23_code 1 = .ok (.invokespecial 202, 3) := by decide +kernel
theorem d8_4 : decode jdk_33_method_23_code 4 = .ok (.aload_n 0, 1) := by decide +kernel
theorem d8_5 : decode jdk_33_method_23_code 5 = .ok (.iload_n 1, 1) := by decide +kernel
theorem d8_6 : decode jdk_33_method_23_code 6 = .ok (.putfield 205, 3) := by decide +kernel
theorem d8_9 : decode jdk_33_method_23_code 9 = .ok (.return_, 1) := by decide +kernel
theorem pn_8 : plainName "java/lang/Integer" = true := by first | (simp [plainName, overriddenIn]; done) | decide +kernel
theorem pd_8_0 : parseMethodDescriptor "()V" = some ⟨[], none⟩ := by decide +kernel
theorem ef_8 (m : MethodId) (x0 : Addr) (x1 : Int32) : entryFrame m #[(.ref x0), (.int x1)] 2 = mkF m 0 #[.val (.ref x0), .val (.int x1)] [] := by first | (simp [entryFrame, mkF, argsToLocals, Value.category]; done) | rfl
def Q8 (Z : State) (a0 : Addr) (p1 : Int32) (u_value_a0 : Value) (h0 : Heap) (n0 : Nat) (v : Option Value) (h : Heap) (L : List Loc) : Prop := v = none ∧ Fr n0 L ∧ Keep h0 h [a0] ∧ Exa Z h a0 "java/lang/Integer"
set_option maxRecDepth 65536 in
set_option maxHeartbeats 40000000 in
theorem rm8 (l : Launch) (Z : State) (az : Array Value) (hw : ∀ d ∈ tables_1, d.before az Z = true) (ws : List Jvm.Cond) (a0 : Addr) (p1 : Int32) (u_value_a0 : Value) (h0 : Heap) (n0 : Nat) (Z0 : n0 ≤ h0.size) (E_a0 : Exa Z h0 a0 "java/lang/Integer") (F_value_a0 : Fld Z h0 a0 "java/lang/Integer" "value" "I" u_value_a0) (gn_a0 : n0 ≤ a0) :
    OCtr l Z (⟨"java/lang/Integer", "<init>", "(I)V"⟩ : MethodName) jdk_33_method_23_code 2 none ws ({ frames := 2, cells := 0, slots := 0, locals := 24 } : Room) #[(.ref a0), (.int p1)] h0 (Q8 Z a0 p1 u_value_a0 h0 n0) := by
  refine OCtr.of (plainFor_of_name pn_8) ?_
  intro p e s m below meth c s₁ X0 hx hlk hZ hown0 hnm hby hml0 hret e0
  have hown : s.vm.findClass "java/lang/Integer" = some m.cls := hown0
  have hml : c.maxLocals = 2 := hml0
  have N0 := Fr.nil n0
  refine OGo.step (fun t k => castTop (ef_8 m a0 p1) k) ?_
  refine OGo.step (F' := s₁.setTop (mkF m 1 #[.val (.ref a0), .val (.int p1)] [(.ref a0)])) (fun t kt => ?_) ?_
  · show Steps p.tables e below (s₁.setTop (mkF m 0 #[.val (.ref a0), .val (.int p1)] [])) t
    refine XS.aloadN X0.here hx rfl (hb hby d8_0) rfl rfl ?_
    exact kt
  refine OGo.callC X0 hx hZ (y := (⟨"java/lang/Number", "<init>", "()V"⟩ : MethodName)) rfl hown (own_wd hw 49 rfl) (own_wd hw 50 rfl) (own_wd hw 53 rfl) (own_wd hw 54 rfl) (by decide) (rm9 l Z az hw [] a0 h0 n0 Z0) (W := 0) (by decide) (by decide) (b := a0) (g := (mkF m 1 #[.val (.ref a0), .val (.int p1)] [(.ref a0)])) rfl (by rw [hml]; rfl) (argsL := []) (rest := []) (lenOf pd_8_0 rfl) rfl (by show 2 * 0 + _ ≤ _; exact Nat.le_of_eq rfl) (hb hby d8_1) rfl e0 (by decide) (by decide) ?_
  rintro _ T1 L1 X1 ⟨rfl, Nq1, e1⟩
  have N1 := Fr.app N0 Nq1
  show OGo _ _ _ _ _ _ _ (T1.setTop (mkF m 4 #[.val (.ref a0), .val (.int p1)] []))
  refine OGo.step (F' := T1.setTop (mkF m 6 #[.val (.ref a0), .val (.int p1)] [(.int p1), (.ref a0)])) (fun t kt => ?_) ?_
  · show Steps p.tables e below (T1.setTop (mkF m 4 #[.val (.ref a0), .val (.int p1)] [])) t
    refine XS.aloadN X1.here hx rfl (hb hby d8_4) rfl rfl ?_
    show Steps p.tables e below (T1.setTop (mkF m 5 #[.val (.ref a0), .val (.int p1)] [(.ref a0)])) t
    refine XS.iloadN X1.here hx rfl (hb hby d8_5) rfl ?_
    exact kt
  obtain ⟨T2, h2, X2, e2, W2, st2⟩ := putF X1 hx hZ hown (host := "") (Or.inl (own_wd hw 56 rfl)) Via.refl e1 F_value_a0 E_a0 (Or.inr ⟨(own_wd hw 57 rfl), rfl, hnm⟩) (own_wd hw 44 rfl) (ty := .int) (by decide) rfl rfl (g := (mkF m 6 #[.val (.ref a0), .val (.int p1)] [(.int p1), (.ref a0)])) rfl rfl (hb hby d8_6)
  have Fw2 : Fld Z h2 a0 "java/lang/Integer" "value" "I" (.int p1) := F_value_a0.same W2
  have KC2 : Keep h0 h2 [a0] := (Keep.refl h0 [a0]).wr W2 (Or.inl (List.mem_of_getElem? (i := 0) rfl))
  have N2 := Fr.snoc X2 N1 gn_a0
  refine OGo.step st2 ?_
  show OGo _ _ _ _ _ _ _ (T2.setTop (mkF m 9 #[.val (.ref a0), .val (.int p1)] []))
  refine OGo.retV X2 hx hlk hret (hb hby d8_9) ?_ (by decide) (by decide)
  show Q8 Z a0 p1 u_value_a0 h0 n0 _ T2.heap _
  rw [e2]
  exact ⟨rfl, N2, KC2, (E_a0.wr W2)⟩
/-! body 7: java/lang/Integer.valueOf:(I)Ljava/lang/Integer; -/
theorem d7_0 : decode jdk_33_method_22_code 0 = .ok (.iload_n 0, 1) := by decide +kernel
theorem d7_1 : decode jdk_33_method_22_code 1 = .ok (.bipush (-128), 2) := by decide +kernel
theorem d7_3 : decode jdk_33_method_22_code 3 = .ok (.if_icmp .lt 20, 3) := by decide +kernel
theorem d7_6 : decode jdk_33_method_22_code 6 = .ok (.iload_n 0, 1) := by decide +kernel
theorem d7_7 : decode jdk_33_method_22_code 7 = .ok (.getstatic 191, 3) := by decide +kernel
theorem d7_10 : decode jdk_33_method_22_code 10 = .ok (.if_icmp .gt 13, 3) := by decide +kernel
theorem d7_13 : decode jdk_33_method_22_code 13 = .ok (.getstatic 195, 3) := by decide +kernel
theorem d7_16 : decode jdk_33_method_22_code 16 = .ok (.iload_n 0, 1) := by decide +kernel
theorem d7_17 : decode jdk_33_method_22_code 17 = .ok (.sipush 128, 3) := by decide +kernel
theorem d7_20 : decode jdk_33_method_22_code 20 = .ok (.iadd, 1) := by decide +kernel
theorem d7_21 : decode jdk_33_method_22_code 21 = .ok (.aaload, 1) := by decide +kernel
theorem d7_22 : decode jdk_33_method_22_code 22 = .ok (.areturn, 1) := by decide +kernel
theorem d7_23 : decode jdk_33_method_22_code 23 = .ok (.new 1, 3) := by decide +kernel
theorem d7_26 : decode jdk_33_method_22_code 26 = .ok (.dup, 1) := by decide +kernel
theorem d7_27 : decode jdk_33_method_22_code 27 = .ok (.iload_n 0, 1) := by decide +kernel
theorem d7_28 : decode jdk_33_method_22_code 28 = .ok (.invokespecial 199, 3) := by decide +kernel
theorem d7_31 : decode jdk_33_method_22_code 31 = .ok (.areturn, 1) := by decide +kernel
theorem pn_7 : plainName "java/lang/Integer" = true := by first | (simp [plainName, overriddenIn]; done) | decide +kernel
theorem pd_7_0 : parseMethodDescriptor "(I)V" = some ⟨[.int], none⟩ := by decide +kernel
theorem ef_7 (m : MethodId) (x0 : Int32) : entryFrame m #[(.int x0)] 1 = mkF m 0 #[.val (.int x0)] [] := by first | (simp [entryFrame, mkF, argsToLocals, Value.category]; done) | rfl
def Q7 (Z : State) (p0 : Int32) (w_high : Int32) (w_cache : Addr) (h0 : Heap) (n0 : Nat) (v : Option Value) (h : Heap) (L : List Loc) : Prop := ∃ r : Addr, v = some (.ref r) ∧ Fr n0 L ∧ Keep h0 h [] ∧ Exa Z h r "java/lang/Integer"
set_option maxRecDepth 65536 in
set_option maxHeartbeats 40000000 in
theorem rm7 (l : Launch) (Z : State) (az : Array Value) (hw : ∀ d ∈ tables_1, d.before az Z = true) (ws : List Jvm.Cond) (p0 : Int32) (w_high : Int32) (w_cache : Addr) (h0 : Heap) (n0 : Nat) (Z0 : n0 ≤ h0.size) (S_high : Sta Z h0 "java/lang/Integer$IntegerCache" "high" "I" (.int w_high)) (S_cache : Sta Z h0 "java/lang/Integer$IntegerCache" "cache" "[Ljava/lang/Integer;" (.ref w_cache)) (hHi : w_high = (127 : Int32)) (Ca : OCache Z h0 w_cache) :
    OCtr l Z (⟨"java/lang/Integer", "valueOf", "(I)Ljava/lang/Integer;"⟩ : MethodName) jdk_33_method_22_code 1 (some (.object "java/lang/Integer")) ws ({ frames := 3, cells := 1, slots := 1, locals := 38 } : Room) #[(.int p0)] h0 (Q7 Z p0 w_high w_cache h0 n0) := by
  refine OCtr.of (plainFor_of_name pn_7) ?_
  intro p e s m below meth c s₁ X0 hx hlk hZ hown0 hnm hby hml0 hret e0
  have hown : s.vm.findClass "java/lang/Integer" = some m.cls := hown0
  have hml : c.maxLocals = 1 := hml0
  have N0 := Fr.nil n0
  refine OGo.step (fun t k => castTop (ef_7 m p0) k) ?_
  refine OGo.step (F' := s₁.setTop (mkF m 3 #[.val (.int p0)] [(.int (-128 : Int32)), (.int p0)])) (fun t kt => ?_) ?_
  · show Steps p.tables e below (s₁.setTop (mkF m 0 #[.val (.int p0)] [])) t
    refine XS.iloadN X0.here hx rfl (hb hby d7_0) rfl ?_
    show Steps p.tables e below (s₁.setTop (mkF m 1 #[.val (.int p0)] [(.int p0)])) t
    refine XS.bipush X0.here hx rfl (hb hby d7_1) ?_
    exact kt
  by_cases hc3 : p0 < (-128 : Int32)
  · refine OGo.step (F' := s₁.setTop (mkF m 23 #[.val (.int p0)] [])) (fun t kt => ?_) ?_
    · show Steps p.tables e below (s₁.setTop (mkF m 3 #[.val (.int p0)] [(.int (-128 : Int32)), (.int p0)])) t
      refine XS.icmpYes X0.here hx rfl (pc0 := 3) (pc' := 23) rfl (hb hby d7_3) rfl (tlt hc3).1 (by decide) (by decide) ?_
      exact kt
    obtain ⟨T1, h1, X1, e1, E1, A1, D1, -, st1⟩ := newO X0 hx hZ hown (own_wd hw 43 rfl) (own_wd hw 44 rfl) (own_wd hw 35 rfl) e0 (g := (mkF m 23 #[.val (.int p0)] [])) rfl (hb hby d7_23) (by decide) (by decide)
    obtain ⟨b1, g1⟩ : ∃ z, z = h0.size := ⟨_, rfl⟩
    rw [← g1] at A1 D1 st1
    have sz_b1 : h0.size ≤ b1 := Nat.le_trans (Keep.refl h0 []).1 (Nat.le_of_eq g1.symm)
    have gn_b1 : n0 ≤ b1 := Nat.le_trans Z0 sz_b1
    have KC1 : Keep h0 h1 [] := (Keep.refl h0 []).ext E1
    have F1_value : Fld Z h1 b1 "java/lang/Integer" "value" "I" (.int (0 : Int32)) := D1 (Or.inr (own_wd hw 57 rfl)) (ty := .int) (by decide)
    refine OGo.step st1 ?_
    show OGo _ _ _ _ _ _ _ (T1.setTop (mkF m 26 #[.val (.int p0)] [(.ref b1)]))
    refine OGo.step (F' := T1.setTop (mkF m 28 #[.val (.int p0)] [(.int p0), (.ref b1), (.ref b1)])) (fun t kt => ?_) ?_
    · show Steps p.tables e below (T1.setTop (mkF m 26 #[.val (.int p0)] [(.ref b1)])) t
      refine XS.dup X1.here hx rfl (hb hby d7_26) rfl rfl ?_
      show Steps p.tables e below (T1.setTop (mkF m 27 #[.val (.int p0)] [(.ref b1), (.ref b1)])) t
      refine XS.iloadN X1.here hx rfl (hb hby d7_27) rfl ?_
      exact kt
    refine OGo.callC X1 hx hZ (y := (⟨"java/lang/Integer", "<init>", "(I)V"⟩ : MethodName)) rfl hown (own_wd hw 45 rfl) (own_wd hw 46 rfl) (own_wd hw 35 rfl) (own_wd hw 48 rfl) (by decide) (rm8 l Z az hw [] b1 p0 (.int (0 : Int32)) h1 n0 (Nat.le_trans Z0 KC1.1) A1 F1_value gn_b1) (W := 1) (by decide) (by decide) (b := b1) (g := (mkF m 28 #[.val (.int p0)] [(.int p0), (.ref b1), (.ref b1)])) rfl (by rw [hml]; rfl) (argsL := [(.int p0)]) (rest := [(.ref b1)]) (lenOf pd_7_0 rfl) rfl (by show 2 * 0 + _ ≤ _; exact Nat.le_of_eq rfl) (hb hby d7_28) rfl e1 (by decide) (by decide) ?_
    rintro _ T2 L2 X2 ⟨rfl, Nq2, K2, P2_0⟩
    have KC2 : Keep h0 T2.heap [] := KC1.trans K2 (allS (Or.inr sz_b1) all0)
    have N2 := Fr.app N0 Nq2
    show OGo _ _ _ _ _ _ _ (T2.setTop (mkF m 31 #[.val (.int p0)] [(.ref b1)]))
    refine OGo.retA X2 hx hlk (t := (.object "java/lang/Integer")) hret rfl rfl rfl (hb hby d7_31) ?_ (by decide) (by decide)
    show Q7 Z p0 w_high w_cache h0 n0 _ T2.heap _
    exact ⟨b1, rfl, N2, KC2, P2_0⟩
  · refine OGo.step (F' := s₁.setTop (mkF m 6 #[.val (.int p0)] [])) (fun t kt => ?_) ?_
    · show Steps p.tables e below (s₁.setTop (mkF m 3 #[.val (.int p0)] [(.int (-128 : Int32)), (.int p0)])) t
      refine XS.icmpNo X0.here hx rfl (hb hby d7_3) rfl (flt hc3).1 ?_
      exact kt
    refine OGo.step (F' := s₁.setTop (mkF m 7 #[.val (.int p0)] [(.int p0)])) (fun t kt => ?_) ?_
    · show Steps p.tables e below (s₁.setTop (mkF m 6 #[.val (.int p0)] [])) t
      refine XS.iloadN X0.here hx rfl (hb hby d7_6) rfl ?_
      exact kt
    obtain ⟨T3, X3, e3, st3⟩ := getS2 X0 hx hZ hown (host := "") (Or.inl (own_wd hw 37 rfl)) Via.refl e0 S_high (g := (mkF m 7 #[.val (.int p0)] [(.int p0)])) rfl (hb hby d7_7)
    refine OGo.step st3 ?_
    show OGo _ _ _ _ _ _ _ (T3.setTop (mkF m 10 #[.val (.int p0)] [(.int w_high), (.int p0)]))
    by_cases hc10 : w_high < p0
    · refine OGo.step (F' := T3.setTop (mkF m 23 #[.val (.int p0)] [])) (fun t kt => ?_) ?_
      · show Steps p.tables e below (T3.setTop (mkF m 10 #[.val (.int p0)] [(.int w_high), (.int p0)])) t
        refine XS.icmpYes X3.here hx rfl (pc0 := 10) (pc' := 23) rfl (hb hby d7_10) rfl (tlt hc10).2.2.1 (by decide) (by decide) ?_
        exact kt
      obtain ⟨T4, h4, X4, e4, E4, A4, D4, -, st4⟩ := newO X3 hx hZ hown (own_wd hw 43 rfl) (own_wd hw 44 rfl) (own_wd hw 35 rfl) e3 (g := (mkF m 23 #[.val (.int p0)] [])) rfl (hb hby d7_23) (by decide) (by decide)
      obtain ⟨b4, g4⟩ : ∃ z, z = h0.size := ⟨_, rfl⟩
      rw [← g4] at A4 D4 st4
      have sz_b4 : h0.size ≤ b4 := Nat.le_trans (Keep.refl h0 []).1 (Nat.le_of_eq g4.symm)
      have gn_b4 : n0 ≤ b4 := Nat.le_trans Z0 sz_b4
      have KC4 : Keep h0 h4 [] := (Keep.refl h0 []).ext E4
      have F4_value : Fld Z h4 b4 "java/lang/Integer" "value" "I" (.int (0 : Int32)) := D4 (Or.inr (own_wd hw 57 rfl)) (ty := .int) (by decide)
      refine OGo.step st4 ?_
      show OGo _ _ _ _ _ _ _ (T4.setTop (mkF m 26 #[.val (.int p0)] [(.ref b4)]))
      refine OGo.step (F' := T4.setTop (mkF m 28 #[.val (.int p0)] [(.int p0), (.ref b4), (.ref b4)])) (fun t kt => ?_) ?_
      · show Steps p.tables e below (T4.setTop (mkF m 26 #[.val (.int p0)] [(.ref b4)])) t
        refine XS.dup X4.here hx rfl (hb hby d7_26) rfl rfl ?_
        show Steps p.tables e below (T4.setTop (mkF m 27 #[.val (.int p0)] [(.ref b4), (.ref b4)])) t
        refine XS.iloadN X4.here hx rfl (hb hby d7_27) rfl ?_
        exact kt
      refine OGo.callC X4 hx hZ (y := (⟨"java/lang/Integer", "<init>", "(I)V"⟩ : MethodName)) rfl hown (own_wd hw 45 rfl) (own_wd hw 46 rfl) (own_wd hw 35 rfl) (own_wd hw 48 rfl) (by decide) (rm8 l Z az hw [] b4 p0 (.int (0 : Int32)) h4 n0 (Nat.le_trans Z0 KC4.1) A4 F4_value gn_b4) (W := 1) (by decide) (by decide) (b := b4) (g := (mkF m 28 #[.val (.int p0)] [(.int p0), (.ref b4), (.ref b4)])) rfl (by rw [hml]; rfl) (argsL := [(.int p0)]) (rest := [(.ref b4)]) (lenOf pd_7_0 rfl) rfl (by show 2 * 0 + _ ≤ _; exact Nat.le_of_eq rfl) (hb hby d7_28) rfl e4 (by decide) (by decide) ?_
      rintro _ T5 L5 X5 ⟨rfl, Nq5, K5, P5_0⟩
      have KC5 : Keep h0 T5.heap [] := KC4.trans K5 (allS (Or.inr sz_b4) all0)
      have N5 := Fr.app N0 Nq5
      show OGo _ _ _ _ _ _ _ (T5.setTop (mkF m 31 #[.val (.int p0)] [(.ref b4)]))
      refine OGo.retA X5 hx hlk (t := (.object "java/lang/Integer")) hret rfl rfl rfl (hb hby d7_31) ?_ (by decide) (by decide)
      show Q7 Z p0 w_high w_cache h0 n0 _ T5.heap _
      exact ⟨b4, rfl, N5, KC5, P5_0⟩
    · refine OGo.step (F' := T3.setTop (mkF m 13 #[.val (.int p0)] [])) (fun t kt => ?_) ?_
      · show Steps p.tables e below (T3.setTop (mkF m 10 #[.val (.int p0)] [(.int w_high), (.int p0)])) t
        refine XS.icmpNo X3.here hx rfl (hb hby d7_10) rfl (flt hc10).2.2.1 ?_
        exact kt
      obtain ⟨T6, X6, e6, st6⟩ := getS2 X3 hx hZ hown (host := "") (Or.inl (own_wd hw 39 rfl)) Via.refl e3 S_cache (g := (mkF m 13 #[.val (.int p0)] [])) rfl (hb hby d7_13)
      refine OGo.step st6 ?_
      show OGo _ _ _ _ _ _ _ (T6.setTop (mkF m 16 #[.val (.int p0)] [(.ref w_cache)]))
      refine OGo.step (F' := T6.setTop (mkF m 21 #[.val (.int p0)] [(.int (p0 + (128 : Int32))), (.ref w_cache)])) (fun t kt => ?_) ?_
      · show Steps p.tables e below (T6.setTop (mkF m 16 #[.val (.int p0)] [(.ref w_cache)])) t
        refine XS.iloadN X6.here hx rfl (hb hby d7_16) rfl ?_
        show Steps p.tables e below (T6.setTop (mkF m 17 #[.val (.int p0)] [(.int p0), (.ref w_cache)])) t
        refine XS.sipush X6.here hx rfl (hb hby d7_17) ?_
        show Steps p.tables e below (T6.setTop (mkF m 20 #[.val (.int p0)] [(.int (128 : Int32)), (.int p0), (.ref w_cache)])) t
        refine XS.iadd X6.here hx rfl (hb hby d7_20) rfl ?_
        exact kt
      obtain ⟨cl7, Ar7, S7, H7⟩ := Ca
      obtain ⟨ix1, ix2⟩ := own_ci hc3 (by rw [← hHi]; exact hc10)
      obtain ⟨rc, hat7, E_rc⟩ := H7 _ ix2
      have hin7 : ¬ ((p0 + (128 : Int32)) < 0 ∨ cl7.slots.size ≤ ((p0 + (128 : Int32))).toNatClampNeg) := by rw [S7]; intro q; rcases q with q | q; exact ix1 q; omega
      refine OGo.step (F' := T6.setTop (mkF m 22 #[.val (.int p0)] [(.ref rc)])) (fun t kt => ?_) ?_
      · show Steps p.tables e below (T6.setTop (mkF m 21 #[.val (.int p0)] [(.int (p0 + (128 : Int32))), (.ref w_cache)])) t
        refine X6.aaload hx (j := (p0 + (128 : Int32))) (v := .ref rc) (by rw [e6]; exact Ar7.1) (State.isArrayOf_alike hZ.alike Ar7.2.1) rfl Ar7.2.2 hin7 hat7 (g := (mkF m 21 #[.val (.int p0)] [(.int (p0 + (128 : Int32))), (.ref w_cache)])) rfl rfl (hb hby d7_21) _ ?_
        exact kt
      refine OGo.retA X6 hx hlk (t := (.object "java/lang/Integer")) hret rfl rfl rfl (hb hby d7_22) ?_ (by decide) (by decide)
      show Q7 Z p0 w_high w_cache h0 n0 _ T6.heap _
      rw [e6]
      exact ⟨rc, rfl, N0, (Keep.refl h0 []), E_rc⟩
theorem own_node (x : Int32) : ¬ (f1 x < (1 : Int32)) := by
  unfold f1 f2
  have n0 := (c_andS x (2147483647 : Int32)).2.2 (by decide)
  generalize x &&& (2147483647 : Int32) = y at *
  simp only [Int32.lt_iff_toInt_lt, Int32.reduceToInt]
  split <;> first | omega | (simp only [Int32.reduceToInt] at *; omega)
theorem own_eq1 {a b c d : Int32} (q : (a = c ∧ b = d) ∨ (a = d ∧ b = c)) : f6 (f5 c d) (f5 a b) (f2 c d) (f2 a b) = (1 : Int32) := by
  unfold f6 f5 f2
  rcases q with ⟨rfl, rfl⟩ | ⟨rfl, rfl⟩
  · simp
  · have e1 : (if a < b then a else b) = (if b < a then b else a) := by
      simp only [Int32.lt_iff_toInt_lt, ← Int32.toInt_inj]; repeat' split
      all_goals omega
    have e2 : (if b < a then a else b) = (if a < b then b else a) := by
      simp only [Int32.lt_iff_toInt_lt, ← Int32.toInt_inj]; repeat' split
      all_goals omega
    simp [e1, e2]
theorem own_eq0 {a b c d : Int32} (q : ¬ ((a = c ∧ b = d) ∨ (a = d ∧ b = c))) : f6 (f5 c d) (f5 a b) (f2 c d) (f2 a b) = (0 : Int32) := by
  unfold f6 f5 f2
  simp only [Int32.lt_iff_toInt_lt, ← Int32.toInt_inj] at *
  repeat' split
  all_goals first | rfl | (exfalso; omega)
theorem own_com (x y z w : Int32) : f6 x y z w = f6 y x w z := by
  unfold f6
  simp only [eq_comm (a := x) (b := y), eq_comm (a := z) (b := w)]
theorem own_refl (x y : Int32) : ¬ (f6 x x y y = (0 : Int32)) := by unfold f6; simp
/-! body 0: com/example/harlow/harlow/core/topology/NodePairEqualsPinLaw.law:(IIIII)Z -/
theorem pn_0 : plainName "com/example/harlow/harlow/core/topology/NodePairEqualsPinLaw" = true := by first | (simp [plainName, overriddenIn]; done) | decide +kernel
theorem pd_0_0 : parseMethodDescriptor "(I)I" = some ⟨[.int], some .int⟩ := by decide +kernel
theorem pd_0_1 : parseMethodDescriptor "(II)V" = some ⟨[.int, .int], none⟩ := by decide +kernel
theorem pd_0_2 : parseMethodDescriptor "(Ljava/lang/Object;)Z" = some ⟨[(.object "java/lang/Object")], some .boolean⟩ := by decide +kernel
theorem pd_0_3 : parseMethodDescriptor "(I)Ljava/lang/Integer;" = some ⟨[.int], some (.object "java/lang/Integer")⟩ := by decide +kernel
theorem ef_0 (m : MethodId) (x0 : Int32) (x1 : Int32) (x2 : Int32) (x3 : Int32) (x4 : Int32) : entryFrame m #[(.int x0), (.int x1), (.int x2), (.int x3), (.int x4)] maxLocals = mkF m 0 #[.val (.int x0), .val (.int x1), .val (.int x2), .val (.int x3), .val (.int x4), .unset, .unset, .unset, .unset, .unset, .unset, .unset, .unset, .unset, .unset, .unset, .unset] [] := by first | (simp [entryFrame, mkF, argsToLocals, Value.category, maxLocals]; done) | rfl
def Q0 (Z : State) (p0 : Int32) (p1 : Int32) (p2 : Int32) (p3 : Int32) (p4 : Int32) (w_high : Int32) (w_cache : Addr) (h0 : Heap) (n0 : Nat) (v : Option Value) (h : Heap) (L : List Loc) : Prop := v = some (.int (1 : Int32)) ∧ Fr n0 L ∧ Keep h0 h []
set_option maxRecDepth 65536 in
set_option maxHeartbeats 40000000 in
theorem rm0 (l : Launch) (Z : State) (az : Array Value) (hw : ∀ d ∈ tables_1, d.before az Z = true) (ws : List Jvm.Cond) (p0 : Int32) (p1 : Int32) (p2 : Int32) (p3 : Int32) (p4 : Int32) (w_high : Int32) (w_cache : Addr) (h0 : Heap) (n0 : Nat) (Z0 : n0 ≤ h0.size) (S_high : Sta Z h0 "java/lang/Integer$IntegerCache" "high" "I" (.int w_high)) (S_cache : Sta Z h0 "java/lang/Integer$IntegerCache" "cache" "[Ljava/lang/Integer;" (.ref w_cache)) (hHi : w_high = (127 : Int32)) (Ca : OCache Z h0 w_cache) :
    OCtr l Z x code maxLocals ret ws room_1 #[(.int p0), (.int p1), (.int p2), (.int p3), (.int p4)] h0 (Q0 Z p0 p1 p2 p3 p4 w_high w_cache h0 n0) := by
  refine OCtr.of (plainFor_of_name pn_0) ?_
  intro p e s m below meth c s₁ X0 hx hlk hZ hown0 hnm hby hml0 hret e0
  have hown : s.vm.findClass "com/example/harlow/harlow/core/topology/NodePairEqualsPinLaw" = some m.cls := hown0
  have hml : c.maxLocals = 17 := hml0
  have N0 := Fr.nil n0
  refine OGo.step (fun t k => castTop (ef_0 m p0 p1 p2 p3 p4) k) ?_
  refine OGo.step (F' := s₁.setTop (mkF m 1 #[.val (.int p0), .val (.int p1), .val (.int p2), .val (.int p3), .val (.int p4), .unset, .unset, .unset, .unset, .unset, .unset, .unset, .unset, .unset, .unset, .unset, .unset] [(.int p0)])) (fun t kt => ?_) ?_
  · show Steps p.tables e below (s₁.setTop (mkF m 0 #[.val (.int p0), .val (.int p1), .val (.int p2), .val (.int p3), .val (.int p4), .unset, .unset, .unset, .unset, .unset, .unset, .unset, .unset, .unset, .unset, .unset, .unset] [])) t
    refine XS.iloadN X0.here hx rfl (hb hby at_0) rfl ?_
    exact kt
  refine OGo.callS X0 hx hZ (y := (⟨"com/example/harlow/harlow/core/topology/NodePairEqualsPinLaw", "node", "(I)I"⟩ : MethodName)) hown (own_wd hw 0 rfl) (own_wd hw 1 rfl) (own_wd hw 2 rfl) (own_wd hw 3 rfl) (by decide) (rm1 l Z az hw [] p0 h0 n0 Z0) (W := 0) (by decide) (by decide) (g := (mkF m 1 #[.val (.int p0), .val (.int p1), .val (.int p2), .val (.int p3), .val (.int p4), .unset, .unset, .unset, .unset, .unset, .unset, .unset, .unset, .unset, .unset, .unset, .unset] [(.int p0)])) rfl (by rw [hml]; rfl) (argsL := [(.int p0)]) (rest := []) (lenOf pd_0_0 rfl) rfl (by show 2 * 0 + _ ≤ _; exact Nat.le_of_eq rfl) (hb hby at_1) rfl e0 (by decide) (by decide) ?_
  rintro _ T1 L1 X1 ⟨rfl, Nq1, e1⟩
  have N1 := Fr.app N0 Nq1
  show OGo _ _ _ _ _ _ _ (T1.setTop (mkF m 4 #[.val (.int p0), .val (.int p1), .val (.int p2), .val (.int p3), .val (.int p4), .unset, .unset, .unset, .unset, .unset, .unset, .unset, .unset, .unset, .unset, .unset, .unset] [(.int (f1 p0))]))
  refine OGo.step (F' := T1.setTop (mkF m 7 #[.val (.int p0), .val (.int p1), .val (.int p2), .val (.int p3), .val (.int p4), .val (.int (f1 p0)), .unset, .unset, .unset, .unset, .unset, .unset, .unset, .unset, .unset, .unset, .unset] [(.int p1)])) (fun t kt => ?_) ?_
  · show Steps p.tables e below (T1.setTop (mkF m 4 #[.val (.int p0), .val (.int p1), .val (.int p2), .val (.int p3), .val (.int p4), .unset, .unset, .unset, .unset, .unset, .unset, .unset, .unset, .unset, .unset, .unset, .unset] [(.int (f1 p0))])) t
    refine XS.istore X1.here hx rfl (hb hby at_4) rfl (l' := #[.val (.int p0), .val (.int p1), .val (.int p2), .val (.int p3), .val (.int p4), .val (.int (f1 p0)), .unset, .unset, .unset, .unset, .unset, .unset, .unset, .unset, .unset, .unset, .unset]) rfl ?_
    show Steps p.tables e below (T1.setTop (mkF m 6 #[.val (.int p0), .val (.int p1), .val (.int p2), .val (.int p3), .val (.int p4), .val (.int (f1 p0)), .unset, .unset, .unset, .unset, .unset, .unset, .unset, .unset, .unset, .unset, .unset] [])) t
    refine XS.iloadN X1.here hx rfl (hb hby at_6) rfl ?_
    exact kt
  refine OGo.callS X1 hx hZ (y := (⟨"com/example/harlow/harlow/core/topology/NodePairEqualsPinLaw", "node", "(I)I"⟩ : MethodName)) hown (own_wd hw 0 rfl) (own_wd hw 1 rfl) (own_wd hw 2 rfl) (own_wd hw 3 rfl) (by decide) (rm1 l Z az hw [] p1 h0 n0 Z0) (W := 0) (by decide) (by decide) (g := (mkF m 7 #[.val (.int p0), .val (.int p1), .val (.int p2), .val (.int p3), .val (.int p4), .val (.int (f1 p0)), .unset, .unset, .unset, .unset, .unset, .unset, .unset, .unset, .unset, .unset, .unset] [(.int p1)])) rfl (by rw [hml]; rfl) (argsL := [(.int p1)]) (rest := []) (lenOf pd_0_0 rfl) rfl (by show 2 * 0 + _ ≤ _; exact Nat.le_of_eq rfl) (hb hby at_7) rfl e1 (by decide) (by decide) ?_
  rintro _ T2 L2 X2 ⟨rfl, Nq2, e2⟩
  have N2 := Fr.app N1 Nq2
  show OGo _ _ _ _ _ _ _ (T2.setTop (mkF m 10 #[.val (.int p0), .val (.int p1), .val (.int p2), .val (.int p3), .val (.int p4), .val (.int (f1 p0)), .unset, .unset, .unset, .unset, .unset, .unset, .unset, .unset, .unset, .unset, .unset] [(.int (f1 p1))]))
  refine OGo.step (F' := T2.setTop (mkF m 13 #[.val (.int p0), .val (.int p1), .val (.int p2), .val (.int p3), .val (.int p4), .val (.int (f1 p0)), .val (.int (f1 p1)), .unset, .unset, .unset, .unset, .unset, .unset, .unset, .unset, .unset, .unset] [(.int p2)])) (fun t kt => ?_) ?_
  · show Steps p.tables e below (T2.setTop (mkF m 10 #[.val (.int p0), .val (.int p1), .val (.int p2), .val (.int p3), .val (.int p4), .val (.int (f1 p0)), .unset, .unset, .unset, .unset, .unset, .unset, .unset, .unset, .unset, .unset, .unset] [(.int (f1 p1))])) t
    refine XS.istore X2.here hx rfl (hb hby at_10) rfl (l' := #[.val (.int p0), .val (.int p1), .val (.int p2), .val (.int p3), .val (.int p4), .val (.int (f1 p0)), .val (.int (f1 p1)), .unset, .unset, .unset, .unset, .unset, .unset, .unset, .unset, .unset, .unset]) rfl ?_
    show Steps p.tables e below (T2.setTop (mkF m 12 #[.val (.int p0), .val (.int p1), .val (.int p2), .val (.int p3), .val (.int p4), .val (.int (f1 p0)), .val (.int (f1 p1)), .unset, .unset, .unset, .unset, .unset, .unset, .unset, .unset, .unset, .unset] [])) t
    refine XS.iloadN X2.here hx rfl (hb hby at_12) rfl ?_
    exact kt
  refine OGo.callS X2 hx hZ (y := (⟨"com/example/harlow/harlow/core/topology/NodePairEqualsPinLaw", "node", "(I)I"⟩ : MethodName)) hown (own_wd hw 0 rfl) (own_wd hw 1 rfl) (own_wd hw 2 rfl) (own_wd hw 3 rfl) (by decide) (rm1 l Z az hw [] p2 h0 n0 Z0) (W := 0) (by decide) (by decide) (g := (mkF m 13 #[.val (.int p0), .val (.int p1), .val (.int p2), .val (.int p3), .val (.int p4), .val (.int (f1 p0)), .val (.int (f1 p1)), .unset, .unset, .unset, .unset, .unset, .unset, .unset, .unset, .unset, .unset] [(.int p2)])) rfl (by rw [hml]; rfl) (argsL := [(.int p2)]) (rest := []) (lenOf pd_0_0 rfl) rfl (by show 2 * 0 + _ ≤ _; exact Nat.le_of_eq rfl) (hb hby at_13) rfl e2 (by decide) (by decide) ?_
  rintro _ T3 L3 X3 ⟨rfl, Nq3, e3⟩
  have N3 := Fr.app N2 Nq3
  show OGo _ _ _ _ _ _ _ (T3.setTop (mkF m 16 #[.val (.int p0), .val (.int p1), .val (.int p2), .val (.int p3), .val (.int p4), .val (.int (f1 p0)), .val (.int (f1 p1)), .unset, .unset, .unset, .unset, .unset, .unset, .unset, .unset, .unset, .unset] [(.int (f1 p2))]))
  refine OGo.step (F' := T3.setTop (mkF m 19 #[.val (.int p0), .val (.int p1), .val (.int p2), .val (.int p3), .val (.int p4), .val (.int (f1 p0)), .val (.int (f1 p1)), .val (.int (f1 p2)), .unset, .unset, .unset, .unset, .unset, .unset, .unset, .unset, .unset] [(.int p3)])) (fun t kt => ?_) ?_
  · show Steps p.tables e below (T3.setTop (mkF m 16 #[.val (.int p0), .val (.int p1), .val (.int p2), .val (.int p3), .val (.int p4), .val (.int (f1 p0)), .val (.int (f1 p1)), .unset, .unset, .unset, .unset, .unset, .unset, .unset, .unset, .unset, .unset] [(.int (f1 p2))])) t
    refine XS.istore X3.here hx rfl (hb hby at_16) rfl (l' := #[.val (.int p0), .val (.int p1), .val (.int p2), .val (.int p3), .val (.int p4), .val (.int (f1 p0)), .val (.int (f1 p1)), .val (.int (f1 p2)), .unset, .unset, .unset, .unset, .unset, .unset, .unset, .unset, .unset]) rfl ?_
    show Steps p.tables e below (T3.setTop (mkF m 18 #[.val (.int p0), .val (.int p1), .val (.int p2), .val (.int p3), .val (.int p4), .val (.int (f1 p0)), .val (.int (f1 p1)), .val (.int (f1 p2)), .unset, .unset, .unset, .unset, .unset, .unset, .unset, .unset, .unset] [])) t
    refine XS.iloadN X3.here hx rfl (hb hby at_18) rfl ?_
    exact kt
  refine OGo.callS X3 hx hZ (y := (⟨"com/example/harlow/harlow/core/topology/NodePairEqualsPinLaw", "node", "(I)I"⟩ : MethodName)) hown (own_wd hw 0 rfl) (own_wd hw 1 rfl) (own_wd hw 2 rfl) (own_wd hw 3 rfl) (by decide) (rm1 l Z az hw [] p3 h0 n0 Z0) (W := 0) (by decide) (by decide) (g := (mkF m 19 #[.val (.int p0), .val (.int p1), .val (.int p2), .val (.int p3), .val (.int p4), .val (.int (f1 p0)), .val (.int (f1 p1)), .val (.int (f1 p2)), .unset, .unset, .unset, .unset, .unset, .unset, .unset, .unset, .unset] [(.int p3)])) rfl (by rw [hml]; rfl) (argsL := [(.int p3)]) (rest := []) (lenOf pd_0_0 rfl) rfl (by show 2 * 0 + _ ≤ _; exact Nat.le_of_eq rfl) (hb hby at_19) rfl e3 (by decide) (by decide) ?_
  rintro _ T4 L4 X4 ⟨rfl, Nq4, e4⟩
  have N4 := Fr.app N3 Nq4
  show OGo _ _ _ _ _ _ _ (T4.setTop (mkF m 22 #[.val (.int p0), .val (.int p1), .val (.int p2), .val (.int p3), .val (.int p4), .val (.int (f1 p0)), .val (.int (f1 p1)), .val (.int (f1 p2)), .unset, .unset, .unset, .unset, .unset, .unset, .unset, .unset, .unset] [(.int (f1 p3))]))
  refine OGo.step (F' := T4.setTop (mkF m 24 #[.val (.int p0), .val (.int p1), .val (.int p2), .val (.int p3), .val (.int p4), .val (.int (f1 p0)), .val (.int (f1 p1)), .val (.int (f1 p2)), .val (.int (f1 p3)), .unset, .unset, .unset, .unset, .unset, .unset, .unset, .unset] [])) (fun t kt => ?_) ?_
  · show Steps p.tables e below (T4.setTop (mkF m 22 #[.val (.int p0), .val (.int p1), .val (.int p2), .val (.int p3), .val (.int p4), .val (.int (f1 p0)), .val (.int (f1 p1)), .val (.int (f1 p2)), .unset, .unset, .unset, .unset, .unset, .unset, .unset, .unset, .unset] [(.int (f1 p3))])) t
    refine XS.istore X4.here hx rfl (hb hby at_22) rfl (l' := #[.val (.int p0), .val (.int p1), .val (.int p2), .val (.int p3), .val (.int p4), .val (.int (f1 p0)), .val (.int (f1 p1)), .val (.int (f1 p2)), .val (.int (f1 p3)), .unset, .unset, .unset, .unset, .unset, .unset, .unset, .unset]) rfl ?_
    exact kt
  have J : ∀ (cc dd : Int32) (o9 : Slot), ¬ (cc < (1 : Int32)) → ¬ (dd < (1 : Int32)) → OGo p e below s (Q0 Z p0 p1 p2 p3 p4 w_high w_cache h0 n0) room_1.cells room_1.slots (T4.setTop (mkF m 88 #[.val (.int p0), .val (.int p1), .val (.int p2), .val (.int p3), .val (.int p4), .val (.int (f1 p0)), .val (.int (f1 p1)), .val (.int (f1 p2)), .val (.int (f1 p3)), o9, .val (.int cc), .val (.int dd), .unset, .unset, .unset, .unset, .unset] [])) := by
    intro cc dd o9 hcc hdd
    refine OGo.step (F' := T4.setTop (mkF m 92 #[.val (.int p0), .val (.int p1), .val (.int p2), .val (.int p3), .val (.int p4), .val (.int (f1 p0)), .val (.int (f1 p1)), .val (.int (f1 p2)), .val (.int (f1 p3)), o9, .val (.int cc), .val (.int dd), .unset, .unset, .unset, .unset, .unset] [(.int (f1 p1)), (.int (f1 p0))])) (fun t kt => ?_) ?_
    · show Steps p.tables e below (T4.setTop (mkF m 88 #[.val (.int p0), .val (.int p1), .val (.int p2), .val (.int p3), .val (.int p4), .val (.int (f1 p0)), .val (.int (f1 p1)), .val (.int (f1 p2)), .val (.int (f1 p3)), o9, .val (.int cc), .val (.int dd), .unset, .unset, .unset, .unset, .unset] [])) t
      refine XS.iload X4.here hx rfl (hb hby at_88) rfl ?_
      show Steps p.tables e below (T4.setTop (mkF m 90 #[.val (.int p0), .val (.int p1), .val (.int p2), .val (.int p3), .val (.int p4), .val (.int (f1 p0)), .val (.int (f1 p1)), .val (.int (f1 p2)), .val (.int (f1 p3)), o9, .val (.int cc), .val (.int dd), .unset, .unset, .unset, .unset, .unset] [(.int (f1 p0))])) t
      refine XS.iload X4.here hx rfl (hb hby at_90) rfl ?_
      exact kt
    by_cases hc92 : (f1 p0) = (f1 p1)
    · refine OGo.step (F' := T4.setTop (mkF m 102 #[.val (.int p0), .val (.int p1), .val (.int p2), .val (.int p3), .val (.int p4), .val (.int (f1 p0)), .val (.int (f1 p1)), .val (.int (f1 p2)), .val (.int (f1 p3)), o9, .val (.int cc), .val (.int dd), .unset, .unset, .unset, .unset, .unset] [])) (fun t kt => ?_) ?_
      · show Steps p.tables e below (T4.setTop (mkF m 92 #[.val (.int p0), .val (.int p1), .val (.int p2), .val (.int p3), .val (.int p4), .val (.int (f1 p0)), .val (.int (f1 p1)), .val (.int (f1 p2)), .val (.int (f1 p3)), o9, .val (.int cc), .val (.int dd), .unset, .unset, .unset, .unset, .unset] [(.int (f1 p1)), (.int (f1 p0))])) t
        refine XS.icmpYes X4.here hx rfl (pc0 := 92) (pc' := 102) rfl (hb hby at_92) rfl (teq hc92).1 (by decide) (by decide) ?_
        exact kt
      refine OGo.step (F' := T4.setTop (mkF m 103 #[.val (.int p0), .val (.int p1), .val (.int p2), .val (.int p3), .val (.int p4), .val (.int (f1 p0)), .val (.int (f1 p1)), .val (.int (f1 p2)), .val (.int (f1 p3)), o9, .val (.int cc), .val (.int dd), .unset, .unset, .unset, .unset, .unset] [(.int (1 : Int32))])) (fun t kt => ?_) ?_
      · show Steps p.tables e below (T4.setTop (mkF m 102 #[.val (.int p0), .val (.int p1), .val (.int p2), .val (.int p3), .val (.int p4), .val (.int (f1 p0)), .val (.int (f1 p1)), .val (.int (f1 p2)), .val (.int (f1 p3)), o9, .val (.int cc), .val (.int dd), .unset, .unset, .unset, .unset, .unset] [])) t
        refine XS.iconst X4.here hx rfl (hb hby at_102) ?_
        exact kt
      refine OGo.retZ X4 hx hlk (t := .boolean) (z' := (1 : Int32)) hret (by simp) (hb hby at_103) rfl ?_ (by decide) (by decide)
      show Q0 Z p0 p1 p2 p3 p4 w_high w_cache h0 n0 _ T4.heap _
      rw [e4]
      exact ⟨rfl, N4, (Keep.refl h0 [])⟩
    · refine OGo.step (F' := T4.setTop (mkF m 95 #[.val (.int p0), .val (.int p1), .val (.int p2), .val (.int p3), .val (.int p4), .val (.int (f1 p0)), .val (.int (f1 p1)), .val (.int (f1 p2)), .val (.int (f1 p3)), o9, .val (.int cc), .val (.int dd), .unset, .unset, .unset, .unset, .unset] [])) (fun t kt => ?_) ?_
      · show Steps p.tables e below (T4.setTop (mkF m 92 #[.val (.int p0), .val (.int p1), .val (.int p2), .val (.int p3), .val (.int p4), .val (.int (f1 p0)), .val (.int (f1 p1)), .val (.int (f1 p2)), .val (.int (f1 p3)), o9, .val (.int cc), .val (.int dd), .unset, .unset, .unset, .unset, .unset] [(.int (f1 p1)), (.int (f1 p0))])) t
        refine XS.icmpNo X4.here hx rfl (hb hby at_92) rfl (feq hc92).1 ?_
        exact kt
      refine OGo.step (F' := T4.setTop (mkF m 99 #[.val (.int p0), .val (.int p1), .val (.int p2), .val (.int p3), .val (.int p4), .val (.int (f1 p0)), .val (.int (f1 p1)), .val (.int (f1 p2)), .val (.int (f1 p3)), o9, .val (.int cc), .val (.int dd), .unset, .unset, .unset, .unset, .unset] [(.int dd), (.int cc)])) (fun t kt => ?_) ?_
      · show Steps p.tables e below (T4.setTop (mkF m 95 #[.val (.int p0), .val (.int p1), .val (.int p2), .val (.int p3), .val (.int p4), .val (.int (f1 p0)), .val (.int (f1 p1)), .val (.int (f1 p2)), .val (.int (f1 p3)), o9, .val (.int cc), .val (.int dd), .unset, .unset, .unset, .unset, .unset] [])) t
        refine XS.iload X4.here hx rfl (hb hby at_95) rfl ?_
        show Steps p.tables e below (T4.setTop (mkF m 97 #[.val (.int p0), .val (.int p1), .val (.int p2), .val (.int p3), .val (.int p4), .val (.int (f1 p0)), .val (.int (f1 p1)), .val (.int (f1 p2)), .val (.int (f1 p3)), o9, .val (.int cc), .val (.int dd), .unset, .unset, .unset, .unset, .unset] [(.int cc)])) t
        refine XS.iload X4.here hx rfl (hb hby at_97) rfl ?_
        exact kt
      by_cases hc99 : cc = dd
      · refine OGo.step (F' := T4.setTop (mkF m 102 #[.val (.int p0), .val (.int p1), .val (.int p2), .val (.int p3), .val (.int p4), .val (.int (f1 p0)), .val (.int (f1 p1)), .val (.int (f1 p2)), .val (.int (f1 p3)), o9, .val (.int cc), .val (.int dd), .unset, .unset, .unset, .unset, .unset] [])) (fun t kt => ?_) ?_
        · show Steps p.tables e below (T4.setTop (mkF m 99 #[.val (.int p0), .val (.int p1), .val (.int p2), .val (.int p3), .val (.int p4), .val (.int (f1 p0)), .val (.int (f1 p1)), .val (.int (f1 p2)), .val (.int (f1 p3)), o9, .val (.int cc), .val (.int dd), .unset, .unset, .unset, .unset, .unset] [(.int dd), (.int cc)])) t
          refine XS.icmpNo X4.here hx rfl (hb hby at_99) rfl (teq hc99).2 ?_
          exact kt
        refine OGo.step (F' := T4.setTop (mkF m 103 #[.val (.int p0), .val (.int p1), .val (.int p2), .val (.int p3), .val (.int p4), .val (.int (f1 p0)), .val (.int (f1 p1)), .val (.int (f1 p2)), .val (.int (f1 p3)), o9, .val (.int cc), .val (.int dd), .unset, .unset, .unset, .unset, .unset] [(.int (1 : Int32))])) (fun t kt => ?_) ?_
        · show Steps p.tables e below (T4.setTop (mkF m 102 #[.val (.int p0), .val (.int p1), .val (.int p2), .val (.int p3), .val (.int p4), .val (.int (f1 p0)), .val (.int (f1 p1)), .val (.int (f1 p2)), .val (.int (f1 p3)), o9, .val (.int cc), .val (.int dd), .unset, .unset, .unset, .unset, .unset] [])) t
          refine XS.iconst X4.here hx rfl (hb hby at_102) ?_
          exact kt
        refine OGo.retZ X4 hx hlk (t := .boolean) (z' := (1 : Int32)) hret (by simp) (hb hby at_103) rfl ?_ (by decide) (by decide)
        show Q0 Z p0 p1 p2 p3 p4 w_high w_cache h0 n0 _ T4.heap _
        rw [e4]
        exact ⟨rfl, N4, (Keep.refl h0 [])⟩
      · refine OGo.step (F' := T4.setTop (mkF m 104 #[.val (.int p0), .val (.int p1), .val (.int p2), .val (.int p3), .val (.int p4), .val (.int (f1 p0)), .val (.int (f1 p1)), .val (.int (f1 p2)), .val (.int (f1 p3)), o9, .val (.int cc), .val (.int dd), .unset, .unset, .unset, .unset, .unset] [])) (fun t kt => ?_) ?_
        · show Steps p.tables e below (T4.setTop (mkF m 99 #[.val (.int p0), .val (.int p1), .val (.int p2), .val (.int p3), .val (.int p4), .val (.int (f1 p0)), .val (.int (f1 p1)), .val (.int (f1 p2)), .val (.int (f1 p3)), o9, .val (.int cc), .val (.int dd), .unset, .unset, .unset, .unset, .unset] [(.int dd), (.int cc)])) t
          refine XS.icmpYes X4.here hx rfl (pc0 := 99) (pc' := 104) rfl (hb hby at_99) rfl (feq hc99).2 (by decide) (by decide) ?_
          exact kt
        obtain ⟨T5, h5, X5, e5, E5, A5, D5, -, st5⟩ := newO X4 hx hZ hown (own_wd hw 9 rfl) (own_wd hw 10 rfl) (own_wd hw 11 rfl) e4 (g := (mkF m 104 #[.val (.int p0), .val (.int p1), .val (.int p2), .val (.int p3), .val (.int p4), .val (.int (f1 p0)), .val (.int (f1 p1)), .val (.int (f1 p2)), .val (.int (f1 p3)), o9, .val (.int cc), .val (.int dd), .unset, .unset, .unset, .unset, .unset] [])) rfl (hb hby at_104) (by decide) (by decide)
        obtain ⟨b5, g5⟩ : ∃ z, z = h0.size := ⟨_, rfl⟩
        rw [← g5] at A5 D5 st5
        have sz_b5 : h0.size ≤ b5 := Nat.le_trans (Keep.refl h0 []).1 (Nat.le_of_eq g5.symm)
        have gn_b5 : n0 ≤ b5 := Nat.le_trans Z0 sz_b5
        have KC5 : Keep h0 h5 [] := (Keep.refl h0 []).ext E5
        have F5_lower : Fld Z h5 b5 "com/example/harlow/harlow/core/topology/NodePair" "lower" "I" (.int (0 : Int32)) := D5 (Or.inr (own_wd hw 22 rfl)) (ty := .int) (by decide)
        have F5_higher : Fld Z h5 b5 "com/example/harlow/harlow/core/topology/NodePair" "higher" "I" (.int (0 : Int32)) := D5 (Or.inr (own_wd hw 25 rfl)) (ty := .int) (by decide)
        refine OGo.step st5 ?_
        show OGo _ _ _ _ _ _ _ (T5.setTop (mkF m 107 #[.val (.int p0), .val (.int p1), .val (.int p2), .val (.int p3), .val (.int p4), .val (.int (f1 p0)), .val (.int (f1 p1)), .val (.int (f1 p2)), .val (.int (f1 p3)), o9, .val (.int cc), .val (.int dd), .unset, .unset, .unset, .unset, .unset] [(.ref b5)]))
        refine OGo.step (F' := T5.setTop (mkF m 112 #[.val (.int p0), .val (.int p1), .val (.int p2), .val (.int p3), .val (.int p4), .val (.int (f1 p0)), .val (.int (f1 p1)), .val (.int (f1 p2)), .val (.int (f1 p3)), o9, .val (.int cc), .val (.int dd), .unset, .unset, .unset, .unset, .unset] [(.int (f1 p1)), (.int (f1 p0)), (.ref b5), (.ref b5)])) (fun t kt => ?_) ?_
        · show Steps p.tables e below (T5.setTop (mkF m 107 #[.val (.int p0), .val (.int p1), .val (.int p2), .val (.int p3), .val (.int p4), .val (.int (f1 p0)), .val (.int (f1 p1)), .val (.int (f1 p2)), .val (.int (f1 p3)), o9, .val (.int cc), .val (.int dd), .unset, .unset, .unset, .unset, .unset] [(.ref b5)])) t
          refine XS.dup X5.here hx rfl (hb hby at_107) rfl rfl ?_
          show Steps p.tables e below (T5.setTop (mkF m 108 #[.val (.int p0), .val (.int p1), .val (.int p2), .val (.int p3), .val (.int p4), .val (.int (f1 p0)), .val (.int (f1 p1)), .val (.int (f1 p2)), .val (.int (f1 p3)), o9, .val (.int cc), .val (.int dd), .unset, .unset, .unset, .unset, .unset] [(.ref b5), (.ref b5)])) t
          refine XS.iload X5.here hx rfl (hb hby at_108) rfl ?_
          show Steps p.tables e below (T5.setTop (mkF m 110 #[.val (.int p0), .val (.int p1), .val (.int p2), .val (.int p3), .val (.int p4), .val (.int (f1 p0)), .val (.int (f1 p1)), .val (.int (f1 p2)), .val (.int (f1 p3)), o9, .val (.int cc), .val (.int dd), .unset, .unset, .unset, .unset, .unset] [(.int (f1 p0)), (.ref b5), (.ref b5)])) t
          refine XS.iload X5.here hx rfl (hb hby at_110) rfl ?_
          exact kt
        refine OGo.callC X5 hx hZ (y := (⟨"com/example/harlow/harlow/core/topology/NodePair", "<init>", "(II)V"⟩ : MethodName)) rfl hown (own_wd hw 12 rfl) (own_wd hw 13 rfl) (own_wd hw 11 rfl) (own_wd hw 14 rfl) (by decide) (rm3 l Z az hw [] b5 (f1 p0) (f1 p1) (.int (0 : Int32)) (.int (0 : Int32)) h5 n0 (Nat.le_trans Z0 KC5.1) (own_node _) (own_node _) hc92 A5 F5_lower gn_b5 F5_higher) (W := 1) (by decide) (by decide) (b := b5) (g := (mkF m 112 #[.val (.int p0), .val (.int p1), .val (.int p2), .val (.int p3), .val (.int p4), .val (.int (f1 p0)), .val (.int (f1 p1)), .val (.int (f1 p2)), .val (.int (f1 p3)), o9, .val (.int cc), .val (.int dd), .unset, .unset, .unset, .unset, .unset] [(.int (f1 p1)), (.int (f1 p0)), (.ref b5), (.ref b5)])) rfl (by rw [hml]; rfl) (argsL := [(.int (f1 p0)), (.int (f1 p1))]) (rest := [(.ref b5)]) (lenOf pd_0_1 rfl) rfl (by show 2 * 0 + _ ≤ _; exact Nat.le_of_eq rfl) (hb hby at_112) rfl e5 (by decide) (by decide) ?_
        rintro _ T6 L6 X6 ⟨rfl, Nq6, K6, P6_0, P6_1, P6_2⟩
        have KC6 : Keep h0 T6.heap [] := KC5.trans K6 (allS (Or.inr sz_b5) all0)
        have N6 := Fr.app N4 Nq6
        show OGo _ _ _ _ _ _ _ (T6.setTop (mkF m 115 #[.val (.int p0), .val (.int p1), .val (.int p2), .val (.int p3), .val (.int p4), .val (.int (f1 p0)), .val (.int (f1 p1)), .val (.int (f1 p2)), .val (.int (f1 p3)), o9, .val (.int cc), .val (.int dd), .unset, .unset, .unset, .unset, .unset] [(.ref b5)]))
        refine OGo.step (F' := T6.setTop (mkF m 117 #[.val (.int p0), .val (.int p1), .val (.int p2), .val (.int p3), .val (.int p4), .val (.int (f1 p0)), .val (.int (f1 p1)), .val (.int (f1 p2)), .val (.int (f1 p3)), o9, .val (.int cc), .val (.int dd), .val (.ref b5), .unset, .unset, .unset, .unset] [])) (fun t kt => ?_) ?_
        · show Steps p.tables e below (T6.setTop (mkF m 115 #[.val (.int p0), .val (.int p1), .val (.int p2), .val (.int p3), .val (.int p4), .val (.int (f1 p0)), .val (.int (f1 p1)), .val (.int (f1 p2)), .val (.int (f1 p3)), o9, .val (.int cc), .val (.int dd), .unset, .unset, .unset, .unset, .unset] [(.ref b5)])) t
          refine XS.astore X6.here hx rfl (hb hby at_115) rfl rfl (l' := #[.val (.int p0), .val (.int p1), .val (.int p2), .val (.int p3), .val (.int p4), .val (.int (f1 p0)), .val (.int (f1 p1)), .val (.int (f1 p2)), .val (.int (f1 p3)), o9, .val (.int cc), .val (.int dd), .val (.ref b5), .unset, .unset, .unset, .unset]) rfl ?_
          exact kt
        obtain ⟨T7, h7, X7, e7, E7, A7, D7, -, st7⟩ := newO X6 hx hZ hown (own_wd hw 9 rfl) (own_wd hw 10 rfl) (own_wd hw 11 rfl) rfl (g := (mkF m 117 #[.val (.int p0), .val (.int p1), .val (.int p2), .val (.int p3), .val (.int p4), .val (.int (f1 p0)), .val (.int (f1 p1)), .val (.int (f1 p2)), .val (.int (f1 p3)), o9, .val (.int cc), .val (.int dd), .val (.ref b5), .unset, .unset, .unset, .unset] [])) rfl (hb hby at_117) (by decide) (by decide)
        obtain ⟨b7, g7⟩ : ∃ z, z = T6.heap.size := ⟨_, rfl⟩
        rw [← g7] at A7 D7 st7
        have sz_b7 : h0.size ≤ b7 := Nat.le_trans KC6.1 (Nat.le_of_eq g7.symm)
        have gn_b7 : n0 ≤ b7 := Nat.le_trans Z0 sz_b7
        have KC7 : Keep h0 h7 [] := KC6.ext E7
        have F7_lower : Fld Z h7 b7 "com/example/harlow/harlow/core/topology/NodePair" "lower" "I" (.int (0 : Int32)) := D7 (Or.inr (own_wd hw 22 rfl)) (ty := .int) (by decide)
        have F7_higher : Fld Z h7 b7 "com/example/harlow/harlow/core/topology/NodePair" "higher" "I" (.int (0 : Int32)) := D7 (Or.inr (own_wd hw 25 rfl)) (ty := .int) (by decide)
        refine OGo.step st7 ?_
        show OGo _ _ _ _ _ _ _ (T7.setTop (mkF m 120 #[.val (.int p0), .val (.int p1), .val (.int p2), .val (.int p3), .val (.int p4), .val (.int (f1 p0)), .val (.int (f1 p1)), .val (.int (f1 p2)), .val (.int (f1 p3)), o9, .val (.int cc), .val (.int dd), .val (.ref b5), .unset, .unset, .unset, .unset] [(.ref b7)]))
        refine OGo.step (F' := T7.setTop (mkF m 125 #[.val (.int p0), .val (.int p1), .val (.int p2), .val (.int p3), .val (.int p4), .val (.int (f1 p0)), .val (.int (f1 p1)), .val (.int (f1 p2)), .val (.int (f1 p3)), o9, .val (.int cc), .val (.int dd), .val (.ref b5), .unset, .unset, .unset, .unset] [(.int dd), (.int cc), (.ref b7), (.ref b7)])) (fun t kt => ?_) ?_
        · show Steps p.tables e below (T7.setTop (mkF m 120 #[.val (.int p0), .val (.int p1), .val (.int p2), .val (.int p3), .val (.int p4), .val (.int (f1 p0)), .val (.int (f1 p1)), .val (.int (f1 p2)), .val (.int (f1 p3)), o9, .val (.int cc), .val (.int dd), .val (.ref b5), .unset, .unset, .unset, .unset] [(.ref b7)])) t
          refine XS.dup X7.here hx rfl (hb hby at_120) rfl rfl ?_
          show Steps p.tables e below (T7.setTop (mkF m 121 #[.val (.int p0), .val (.int p1), .val (.int p2), .val (.int p3), .val (.int p4), .val (.int (f1 p0)), .val (.int (f1 p1)), .val (.int (f1 p2)), .val (.int (f1 p3)), o9, .val (.int cc), .val (.int dd), .val (.ref b5), .unset, .unset, .unset, .unset] [(.ref b7), (.ref b7)])) t
          refine XS.iload X7.here hx rfl (hb hby at_121) rfl ?_
          show Steps p.tables e below (T7.setTop (mkF m 123 #[.val (.int p0), .val (.int p1), .val (.int p2), .val (.int p3), .val (.int p4), .val (.int (f1 p0)), .val (.int (f1 p1)), .val (.int (f1 p2)), .val (.int (f1 p3)), o9, .val (.int cc), .val (.int dd), .val (.ref b5), .unset, .unset, .unset, .unset] [(.int cc), (.ref b7), (.ref b7)])) t
          refine XS.iload X7.here hx rfl (hb hby at_123) rfl ?_
          exact kt
        refine OGo.callC X7 hx hZ (y := (⟨"com/example/harlow/harlow/core/topology/NodePair", "<init>", "(II)V"⟩ : MethodName)) rfl hown (own_wd hw 12 rfl) (own_wd hw 13 rfl) (own_wd hw 11 rfl) (own_wd hw 14 rfl) (by decide) (rm3 l Z az hw [] b7 cc dd (.int (0 : Int32)) (.int (0 : Int32)) h7 n0 (Nat.le_trans Z0 KC7.1) hcc hdd hc99 A7 F7_lower gn_b7 F7_higher) (W := 1) (by decide) (by decide) (b := b7) (g := (mkF m 125 #[.val (.int p0), .val (.int p1), .val (.int p2), .val (.int p3), .val (.int p4), .val (.int (f1 p0)), .val (.int (f1 p1)), .val (.int (f1 p2)), .val (.int (f1 p3)), o9, .val (.int cc), .val (.int dd), .val (.ref b5), .unset, .unset, .unset, .unset] [(.int dd), (.int cc), (.ref b7), (.ref b7)])) rfl (by rw [hml]; rfl) (argsL := [(.int cc), (.int dd)]) (rest := [(.ref b7)]) (lenOf pd_0_1 rfl) rfl (by show 2 * 0 + _ ≤ _; exact Nat.le_of_eq rfl) (hb hby at_125) rfl e7 (by decide) (by decide) ?_
        rintro _ T8 L8 X8 ⟨rfl, Nq8, K8, P8_0, P8_1, P8_2⟩
        have KC8 : Keep h0 T8.heap [] := KC7.trans K8 (allS (Or.inr sz_b7) all0)
        have N8 := Fr.app N6 Nq8
        show OGo _ _ _ _ _ _ _ (T8.setTop (mkF m 128 #[.val (.int p0), .val (.int p1), .val (.int p2), .val (.int p3), .val (.int p4), .val (.int (f1 p0)), .val (.int (f1 p1)), .val (.int (f1 p2)), .val (.int (f1 p3)), o9, .val (.int cc), .val (.int dd), .val (.ref b5), .unset, .unset, .unset, .unset] [(.ref b7)]))
        refine OGo.step (F' := T8.setTop (mkF m 134 #[.val (.int p0), .val (.int p1), .val (.int p2), .val (.int p3), .val (.int p4), .val (.int (f1 p0)), .val (.int (f1 p1)), .val (.int (f1 p2)), .val (.int (f1 p3)), o9, .val (.int cc), .val (.int dd), .val (.ref b5), .val (.ref b7), .unset, .unset, .unset] [(.int cc), (.int (f1 p0))])) (fun t kt => ?_) ?_
        · show Steps p.tables e below (T8.setTop (mkF m 128 #[.val (.int p0), .val (.int p1), .val (.int p2), .val (.int p3), .val (.int p4), .val (.int (f1 p0)), .val (.int (f1 p1)), .val (.int (f1 p2)), .val (.int (f1 p3)), o9, .val (.int cc), .val (.int dd), .val (.ref b5), .unset, .unset, .unset, .unset] [(.ref b7)])) t
          refine XS.astore X8.here hx rfl (hb hby at_128) rfl rfl (l' := #[.val (.int p0), .val (.int p1), .val (.int p2), .val (.int p3), .val (.int p4), .val (.int (f1 p0)), .val (.int (f1 p1)), .val (.int (f1 p2)), .val (.int (f1 p3)), o9, .val (.int cc), .val (.int dd), .val (.ref b5), .val (.ref b7), .unset, .unset, .unset]) rfl ?_
          show Steps p.tables e below (T8.setTop (mkF m 130 #[.val (.int p0), .val (.int p1), .val (.int p2), .val (.int p3), .val (.int p4), .val (.int (f1 p0)), .val (.int (f1 p1)), .val (.int (f1 p2)), .val (.int (f1 p3)), o9, .val (.int cc), .val (.int dd), .val (.ref b5), .val (.ref b7), .unset, .unset, .unset] [])) t
          refine XS.iload X8.here hx rfl (hb hby at_130) rfl ?_
          show Steps p.tables e below (T8.setTop (mkF m 132 #[.val (.int p0), .val (.int p1), .val (.int p2), .val (.int p3), .val (.int p4), .val (.int (f1 p0)), .val (.int (f1 p1)), .val (.int (f1 p2)), .val (.int (f1 p3)), o9, .val (.int cc), .val (.int dd), .val (.ref b5), .val (.ref b7), .unset, .unset, .unset] [(.int (f1 p0))])) t
          refine XS.iload X8.here hx rfl (hb hby at_132) rfl ?_
          exact kt
        by_cases hc134 : (f1 p0) = cc
        · refine OGo.step (F' := T8.setTop (mkF m 137 #[.val (.int p0), .val (.int p1), .val (.int p2), .val (.int p3), .val (.int p4), .val (.int (f1 p0)), .val (.int (f1 p1)), .val (.int (f1 p2)), .val (.int (f1 p3)), o9, .val (.int cc), .val (.int dd), .val (.ref b5), .val (.ref b7), .unset, .unset, .unset] [])) (fun t kt => ?_) ?_
          · show Steps p.tables e below (T8.setTop (mkF m 134 #[.val (.int p0), .val (.int p1), .val (.int p2), .val (.int p3), .val (.int p4), .val (.int (f1 p0)), .val (.int (f1 p1)), .val (.int (f1 p2)), .val (.int (f1 p3)), o9, .val (.int cc), .val (.int dd), .val (.ref b5), .val (.ref b7), .unset, .unset, .unset] [(.int cc), (.int (f1 p0))])) t
            refine XS.icmpNo X8.here hx rfl (hb hby at_134) rfl (teq hc134).2 ?_
            exact kt
          refine OGo.step (F' := T8.setTop (mkF m 141 #[.val (.int p0), .val (.int p1), .val (.int p2), .val (.int p3), .val (.int p4), .val (.int (f1 p0)), .val (.int (f1 p1)), .val (.int (f1 p2)), .val (.int (f1 p3)), o9, .val (.int cc), .val (.int dd), .val (.ref b5), .val (.ref b7), .unset, .unset, .unset] [(.int dd), (.int (f1 p1))])) (fun t kt => ?_) ?_
          · show Steps p.tables e below (T8.setTop (mkF m 137 #[.val (.int p0), .val (.int p1), .val (.int p2), .val (.int p3), .val (.int p4), .val (.int (f1 p0)), .val (.int (f1 p1)), .val (.int (f1 p2)), .val (.int (f1 p3)), o9, .val (.int cc), .val (.int dd), .val (.ref b5), .val (.ref b7), .unset, .unset, .unset] [])) t
            refine XS.iload X8.here hx rfl (hb hby at_137) rfl ?_
            show Steps p.tables e below (T8.setTop (mkF m 139 #[.val (.int p0), .val (.int p1), .val (.int p2), .val (.int p3), .val (.int p4), .val (.int (f1 p0)), .val (.int (f1 p1)), .val (.int (f1 p2)), .val (.int (f1 p3)), o9, .val (.int cc), .val (.int dd), .val (.ref b5), .val (.ref b7), .unset, .unset, .unset] [(.int (f1 p1))])) t
            refine XS.iload X8.here hx rfl (hb hby at_139) rfl ?_
            exact kt
          by_cases hc141 : (f1 p1) = dd
          · refine OGo.step (F' := T8.setTop (mkF m 158 #[.val (.int p0), .val (.int p1), .val (.int p2), .val (.int p3), .val (.int p4), .val (.int (f1 p0)), .val (.int (f1 p1)), .val (.int (f1 p2)), .val (.int (f1 p3)), o9, .val (.int cc), .val (.int dd), .val (.ref b5), .val (.ref b7), .unset, .unset, .unset] [])) (fun t kt => ?_) ?_
            · show Steps p.tables e below (T8.setTop (mkF m 141 #[.val (.int p0), .val (.int p1), .val (.int p2), .val (.int p3), .val (.int p4), .val (.int (f1 p0)), .val (.int (f1 p1)), .val (.int (f1 p2)), .val (.int (f1 p3)), o9, .val (.int cc), .val (.int dd), .val (.ref b5), .val (.ref b7), .unset, .unset, .unset] [(.int dd), (.int (f1 p1))])) t
              refine XS.icmpYes X8.here hx rfl (pc0 := 141) (pc' := 158) rfl (hb hby at_141) rfl (teq hc141).1 (by decide) (by decide) ?_
              exact kt
            refine OGo.step (F' := T8.setTop (mkF m 169 #[.val (.int p0), .val (.int p1), .val (.int p2), .val (.int p3), .val (.int p4), .val (.int (f1 p0)), .val (.int (f1 p1)), .val (.int (f1 p2)), .val (.int (f1 p3)), o9, .val (.int cc), .val (.int dd), .val (.ref b5), .val (.ref b7), .val (.int (1 : Int32)), .unset, .unset] [(.ref b7), (.ref b5)])) (fun t kt => ?_) ?_
            · show Steps p.tables e below (T8.setTop (mkF m 158 #[.val (.int p0), .val (.int p1), .val (.int p2), .val (.int p3), .val (.int p4), .val (.int (f1 p0)), .val (.int (f1 p1)), .val (.int (f1 p2)), .val (.int (f1 p3)), o9, .val (.int cc), .val (.int dd), .val (.ref b5), .val (.ref b7), .unset, .unset, .unset] [])) t
              refine XS.iconst X8.here hx rfl (hb hby at_158) ?_
              show Steps p.tables e below (T8.setTop (mkF m 159 #[.val (.int p0), .val (.int p1), .val (.int p2), .val (.int p3), .val (.int p4), .val (.int (f1 p0)), .val (.int (f1 p1)), .val (.int (f1 p2)), .val (.int (f1 p3)), o9, .val (.int cc), .val (.int dd), .val (.ref b5), .val (.ref b7), .unset, .unset, .unset] [(.int (1 : Int32))])) t
              refine XS.goto X8.here hx rfl (pc0 := 159) (pc' := 163) rfl (hb hby at_159) (by decide) (by decide) ?_
              show Steps p.tables e below (T8.setTop (mkF m 163 #[.val (.int p0), .val (.int p1), .val (.int p2), .val (.int p3), .val (.int p4), .val (.int (f1 p0)), .val (.int (f1 p1)), .val (.int (f1 p2)), .val (.int (f1 p3)), o9, .val (.int cc), .val (.int dd), .val (.ref b5), .val (.ref b7), .unset, .unset, .unset] [(.int (1 : Int32))])) t
              refine XS.istore X8.here hx rfl (hb hby at_163) rfl (l' := #[.val (.int p0), .val (.int p1), .val (.int p2), .val (.int p3), .val (.int p4), .val (.int (f1 p0)), .val (.int (f1 p1)), .val (.int (f1 p2)), .val (.int (f1 p3)), o9, .val (.int cc), .val (.int dd), .val (.ref b5), .val (.ref b7), .val (.int (1 : Int32)), .unset, .unset]) rfl ?_
              show Steps p.tables e below (T8.setTop (mkF m 165 #[.val (.int p0), .val (.int p1), .val (.int p2), .val (.int p3), .val (.int p4), .val (.int (f1 p0)), .val (.int (f1 p1)), .val (.int (f1 p2)), .val (.int (f1 p3)), o9, .val (.int cc), .val (.int dd), .val (.ref b5), .val (.ref b7), .val (.int (1 : Int32)), .unset, .unset] [])) t
              refine XS.aload X8.here hx rfl (hb hby at_165) rfl rfl ?_
              show Steps p.tables e below (T8.setTop (mkF m 167 #[.val (.int p0), .val (.int p1), .val (.int p2), .val (.int p3), .val (.int p4), .val (.int (f1 p0)), .val (.int (f1 p1)), .val (.int (f1 p2)), .val (.int (f1 p3)), o9, .val (.int cc), .val (.int dd), .val (.ref b5), .val (.ref b7), .val (.int (1 : Int32)), .unset, .unset] [(.ref b5)])) t
              refine XS.aload X8.here hx rfl (hb hby at_167) rfl rfl ?_
              exact kt
            refine OGo.callV X8 hx hZ (y := (⟨"com/example/harlow/harlow/core/topology/NodePair", "equals", "(Ljava/lang/Object;)Z"⟩ : MethodName)) (z := (⟨"com/example/harlow/harlow/core/topology/NodePair", "equals", "(Ljava/lang/Object;)Z"⟩ : MethodName)) hown (own_wd hw 26 rfl) (own_wd hw 27 rfl) (notFace_of_selects (args := #[]) (mvT hZ (own_wd hw 29 rfl))) (own_wd hw 29 rfl) (own_wd hw 28 rfl) (own_wd hw 11 rfl) (own_wd hw 30 rfl) (by decide) (rm6 l Z az hw [] b5 b7 (f5 cc dd) (f5 (f1 p0) (f1 p1)) (f2 cc dd) (f2 (f1 p0) (f1 p1)) T8.heap n0 (Nat.le_trans Z0 KC8.1) P8_0 P8_1 ((P6_1.ext E7).keep K8 (ninS (Nat.ne_of_lt (Nat.lt_of_lt_of_le P6_0.lt (Nat.le_of_eq g7.symm))) nin0)) P8_2 ((P6_2.ext E7).keep K8 (ninS (Nat.ne_of_lt (Nat.lt_of_lt_of_le P6_0.lt (Nat.le_of_eq g7.symm))) nin0))) (W := 0) (by decide) (by decide) ((P6_0.ext E7).keep K8) (g := (mkF m 169 #[.val (.int p0), .val (.int p1), .val (.int p2), .val (.int p3), .val (.int p4), .val (.int (f1 p0)), .val (.int (f1 p1)), .val (.int (f1 p2)), .val (.int (f1 p3)), o9, .val (.int cc), .val (.int dd), .val (.ref b5), .val (.ref b7), .val (.int (1 : Int32)), .unset, .unset] [(.ref b7), (.ref b5)])) rfl (by rw [hml]; rfl) (argsL := [(.ref b7)]) (rest := []) (lenOf pd_0_2 rfl) rfl (by show 2 * 0 + _ ≤ _; exact Nat.le_of_eq rfl) (hb hby at_169) rfl rfl (by decide) (by decide) ?_
            rintro _ T9 L9 X9 ⟨rfl, Nq9, e9⟩
            have N9 := Fr.app N8 Nq9
            show OGo _ _ _ _ _ _ _ (T9.setTop (mkF m 172 #[.val (.int p0), .val (.int p1), .val (.int p2), .val (.int p3), .val (.int p4), .val (.int (f1 p0)), .val (.int (f1 p1)), .val (.int (f1 p2)), .val (.int (f1 p3)), o9, .val (.int cc), .val (.int dd), .val (.ref b5), .val (.ref b7), .val (.int (1 : Int32)), .unset, .unset] [(.int (f6 (f5 cc dd) (f5 (f1 p0) (f1 p1)) (f2 cc dd) (f2 (f1 p0) (f1 p1))))]))
            refine OGo.step (F' := T9.setTop (mkF m 193 #[.val (.int p0), .val (.int p1), .val (.int p2), .val (.int p3), .val (.int p4), .val (.int (f1 p0)), .val (.int (f1 p1)), .val (.int (f1 p2)), .val (.int (f1 p3)), o9, .val (.int cc), .val (.int dd), .val (.ref b5), .val (.ref b7), .val (.int (1 : Int32)), .val (.int (1 : Int32)), .unset] [(.ref b5), (.ref b7)])) (fun t kt => ?_) ?_
            · show Steps p.tables e below (T9.setTop (mkF m 172 #[.val (.int p0), .val (.int p1), .val (.int p2), .val (.int p3), .val (.int p4), .val (.int (f1 p0)), .val (.int (f1 p1)), .val (.int (f1 p2)), .val (.int (f1 p3)), o9, .val (.int cc), .val (.int dd), .val (.ref b5), .val (.ref b7), .val (.int (1 : Int32)), .unset, .unset] [(.int (f6 (f5 cc dd) (f5 (f1 p0) (f1 p1)) (f2 cc dd) (f2 (f1 p0) (f1 p1))))])) t
              refine XS.iload X9.here hx rfl (hb hby at_172) rfl ?_
              show Steps p.tables e below (T9.setTop (mkF m 174 #[.val (.int p0), .val (.int p1), .val (.int p2), .val (.int p3), .val (.int p4), .val (.int (f1 p0)), .val (.int (f1 p1)), .val (.int (f1 p2)), .val (.int (f1 p3)), o9, .val (.int cc), .val (.int dd), .val (.ref b5), .val (.ref b7), .val (.int (1 : Int32)), .unset, .unset] [(.int (1 : Int32)), (.int (f6 (f5 cc dd) (f5 (f1 p0) (f1 p1)) (f2 cc dd) (f2 (f1 p0) (f1 p1))))])) t
              refine XS.icmpNo X9.here hx rfl (hb hby at_174) rfl (teq (own_eq1 (Or.inl ⟨hc134, hc141⟩))).2 ?_
              show Steps p.tables e below (T9.setTop (mkF m 177 #[.val (.int p0), .val (.int p1), .val (.int p2), .val (.int p3), .val (.int p4), .val (.int (f1 p0)), .val (.int (f1 p1)), .val (.int (f1 p2)), .val (.int (f1 p3)), o9, .val (.int cc), .val (.int dd), .val (.ref b5), .val (.ref b7), .val (.int (1 : Int32)), .unset, .unset] [])) t
              refine XS.iconst X9.here hx rfl (hb hby at_177) ?_
              show Steps p.tables e below (T9.setTop (mkF m 178 #[.val (.int p0), .val (.int p1), .val (.int p2), .val (.int p3), .val (.int p4), .val (.int (f1 p0)), .val (.int (f1 p1)), .val (.int (f1 p2)), .val (.int (f1 p3)), o9, .val (.int cc), .val (.int dd), .val (.ref b5), .val (.ref b7), .val (.int (1 : Int32)), .unset, .unset] [(.int (1 : Int32))])) t
              refine XS.goto X9.here hx rfl (pc0 := 178) (pc' := 182) rfl (hb hby at_178) (by decide) (by decide) ?_
              show Steps p.tables e below (T9.setTop (mkF m 182 #[.val (.int p0), .val (.int p1), .val (.int p2), .val (.int p3), .val (.int p4), .val (.int (f1 p0)), .val (.int (f1 p1)), .val (.int (f1 p2)), .val (.int (f1 p3)), o9, .val (.int cc), .val (.int dd), .val (.ref b5), .val (.ref b7), .val (.int (1 : Int32)), .unset, .unset] [(.int (1 : Int32))])) t
              refine XS.istore X9.here hx rfl (hb hby at_182) rfl (l' := #[.val (.int p0), .val (.int p1), .val (.int p2), .val (.int p3), .val (.int p4), .val (.int (f1 p0)), .val (.int (f1 p1)), .val (.int (f1 p2)), .val (.int (f1 p3)), o9, .val (.int cc), .val (.int dd), .val (.ref b5), .val (.ref b7), .val (.int (1 : Int32)), .val (.int (1 : Int32)), .unset]) rfl ?_
              show Steps p.tables e below (T9.setTop (mkF m 184 #[.val (.int p0), .val (.int p1), .val (.int p2), .val (.int p3), .val (.int p4), .val (.int (f1 p0)), .val (.int (f1 p1)), .val (.int (f1 p2)), .val (.int (f1 p3)), o9, .val (.int cc), .val (.int dd), .val (.ref b5), .val (.ref b7), .val (.int (1 : Int32)), .val (.int (1 : Int32)), .unset] [])) t
              refine XS.iload X9.here hx rfl (hb hby at_184) rfl ?_
              show Steps p.tables e below (T9.setTop (mkF m 186 #[.val (.int p0), .val (.int p1), .val (.int p2), .val (.int p3), .val (.int p4), .val (.int (f1 p0)), .val (.int (f1 p1)), .val (.int (f1 p2)), .val (.int (f1 p3)), o9, .val (.int cc), .val (.int dd), .val (.ref b5), .val (.ref b7), .val (.int (1 : Int32)), .val (.int (1 : Int32)), .unset] [(.int (1 : Int32))])) t
              refine XS.ifNo X9.here hx rfl (hb hby at_186) rfl ((if0 _ _).trans (feq (by decide : ¬ ((1 : Int32) = (0 : Int32)))).1) ?_
              show Steps p.tables e below (T9.setTop (mkF m 189 #[.val (.int p0), .val (.int p1), .val (.int p2), .val (.int p3), .val (.int p4), .val (.int (f1 p0)), .val (.int (f1 p1)), .val (.int (f1 p2)), .val (.int (f1 p3)), o9, .val (.int cc), .val (.int dd), .val (.ref b5), .val (.ref b7), .val (.int (1 : Int32)), .val (.int (1 : Int32)), .unset] [])) t
              refine XS.aload X9.here hx rfl (hb hby at_189) rfl rfl ?_
              show Steps p.tables e below (T9.setTop (mkF m 191 #[.val (.int p0), .val (.int p1), .val (.int p2), .val (.int p3), .val (.int p4), .val (.int (f1 p0)), .val (.int (f1 p1)), .val (.int (f1 p2)), .val (.int (f1 p3)), o9, .val (.int cc), .val (.int dd), .val (.ref b5), .val (.ref b7), .val (.int (1 : Int32)), .val (.int (1 : Int32)), .unset] [(.ref b7)])) t
              refine XS.aload X9.here hx rfl (hb hby at_191) rfl rfl ?_
              exact kt
            refine OGo.callV X9 hx hZ (y := (⟨"com/example/harlow/harlow/core/topology/NodePair", "equals", "(Ljava/lang/Object;)Z"⟩ : MethodName)) (z := (⟨"com/example/harlow/harlow/core/topology/NodePair", "equals", "(Ljava/lang/Object;)Z"⟩ : MethodName)) hown (own_wd hw 26 rfl) (own_wd hw 27 rfl) (notFace_of_selects (args := #[]) (mvT hZ (own_wd hw 29 rfl))) (own_wd hw 29 rfl) (own_wd hw 28 rfl) (own_wd hw 11 rfl) (own_wd hw 30 rfl) (by decide) (rm6 l Z az hw [] b7 b5 (f5 (f1 p0) (f1 p1)) (f5 cc dd) (f2 (f1 p0) (f1 p1)) (f2 cc dd) T8.heap n0 (Nat.le_trans Z0 KC8.1) ((P6_0.ext E7).keep K8) ((P6_1.ext E7).keep K8 (ninS (Nat.ne_of_lt (Nat.lt_of_lt_of_le P6_0.lt (Nat.le_of_eq g7.symm))) nin0)) P8_1 ((P6_2.ext E7).keep K8 (ninS (Nat.ne_of_lt (Nat.lt_of_lt_of_le P6_0.lt (Nat.le_of_eq g7.symm))) nin0)) P8_2) (W := 0) (by decide) (by decide) P8_0 (g := (mkF m 193 #[.val (.int p0), .val (.int p1), .val (.int p2), .val (.int p3), .val (.int p4), .val (.int (f1 p0)), .val (.int (f1 p1)), .val (.int (f1 p2)), .val (.int (f1 p3)), o9, .val (.int cc), .val (.int dd), .val (.ref b5), .val (.ref b7), .val (.int (1 : Int32)), .val (.int (1 : Int32)), .unset] [(.ref b5), (.ref b7)])) rfl (by rw [hml]; rfl) (argsL := [(.ref b5)]) (rest := []) (lenOf pd_0_2 rfl) rfl (by show 2 * 0 + _ ≤ _; exact Nat.le_of_eq rfl) (hb hby at_193) rfl e9 (by decide) (by decide) ?_
            rintro _ T10 L10 X10 ⟨rfl, Nq10, e10⟩
            have N10 := Fr.app N9 Nq10
            show OGo _ _ _ _ _ _ _ (T10.setTop (mkF m 196 #[.val (.int p0), .val (.int p1), .val (.int p2), .val (.int p3), .val (.int p4), .val (.int (f1 p0)), .val (.int (f1 p1)), .val (.int (f1 p2)), .val (.int (f1 p3)), o9, .val (.int cc), .val (.int dd), .val (.ref b5), .val (.ref b7), .val (.int (1 : Int32)), .val (.int (1 : Int32)), .unset] [(.int (f6 (f5 (f1 p0) (f1 p1)) (f5 cc dd) (f2 (f1 p0) (f1 p1)) (f2 cc dd)))]))
            refine OGo.step (F' := T10.setTop (mkF m 217 #[.val (.int p0), .val (.int p1), .val (.int p2), .val (.int p3), .val (.int p4), .val (.int (f1 p0)), .val (.int (f1 p1)), .val (.int (f1 p2)), .val (.int (f1 p3)), o9, .val (.int cc), .val (.int dd), .val (.ref b5), .val (.ref b7), .val (.int (1 : Int32)), .val (.int (1 : Int32)), .unset] [(.ref b5), (.ref b5)])) (fun t kt => ?_) ?_
            · show Steps p.tables e below (T10.setTop (mkF m 196 #[.val (.int p0), .val (.int p1), .val (.int p2), .val (.int p3), .val (.int p4), .val (.int (f1 p0)), .val (.int (f1 p1)), .val (.int (f1 p2)), .val (.int (f1 p3)), o9, .val (.int cc), .val (.int dd), .val (.ref b5), .val (.ref b7), .val (.int (1 : Int32)), .val (.int (1 : Int32)), .unset] [(.int (f6 (f5 (f1 p0) (f1 p1)) (f5 cc dd) (f2 (f1 p0) (f1 p1)) (f2 cc dd)))])) t
              refine XS.iload X10.here hx rfl (hb hby at_196) rfl ?_
              show Steps p.tables e below (T10.setTop (mkF m 198 #[.val (.int p0), .val (.int p1), .val (.int p2), .val (.int p3), .val (.int p4), .val (.int (f1 p0)), .val (.int (f1 p1)), .val (.int (f1 p2)), .val (.int (f1 p3)), o9, .val (.int cc), .val (.int dd), .val (.ref b5), .val (.ref b7), .val (.int (1 : Int32)), .val (.int (1 : Int32)), .unset] [(.int (1 : Int32)), (.int (f6 (f5 (f1 p0) (f1 p1)) (f5 cc dd) (f2 (f1 p0) (f1 p1)) (f2 cc dd)))])) t
              refine XS.icmpNo X10.here hx rfl (hb hby at_198) rfl (teq ((own_com _ _ _ _).trans (own_eq1 (Or.inl ⟨hc134, hc141⟩)))).2 ?_
              show Steps p.tables e below (T10.setTop (mkF m 201 #[.val (.int p0), .val (.int p1), .val (.int p2), .val (.int p3), .val (.int p4), .val (.int (f1 p0)), .val (.int (f1 p1)), .val (.int (f1 p2)), .val (.int (f1 p3)), o9, .val (.int cc), .val (.int dd), .val (.ref b5), .val (.ref b7), .val (.int (1 : Int32)), .val (.int (1 : Int32)), .unset] [])) t
              refine XS.iconst X10.here hx rfl (hb hby at_201) ?_
              show Steps p.tables e below (T10.setTop (mkF m 202 #[.val (.int p0), .val (.int p1), .val (.int p2), .val (.int p3), .val (.int p4), .val (.int (f1 p0)), .val (.int (f1 p1)), .val (.int (f1 p2)), .val (.int (f1 p3)), o9, .val (.int cc), .val (.int dd), .val (.ref b5), .val (.ref b7), .val (.int (1 : Int32)), .val (.int (1 : Int32)), .unset] [(.int (1 : Int32))])) t
              refine XS.goto X10.here hx rfl (pc0 := 202) (pc' := 206) rfl (hb hby at_202) (by decide) (by decide) ?_
              show Steps p.tables e below (T10.setTop (mkF m 206 #[.val (.int p0), .val (.int p1), .val (.int p2), .val (.int p3), .val (.int p4), .val (.int (f1 p0)), .val (.int (f1 p1)), .val (.int (f1 p2)), .val (.int (f1 p3)), o9, .val (.int cc), .val (.int dd), .val (.ref b5), .val (.ref b7), .val (.int (1 : Int32)), .val (.int (1 : Int32)), .unset] [(.int (1 : Int32))])) t
              refine XS.istore X10.here hx rfl (hb hby at_206) rfl (l' := #[.val (.int p0), .val (.int p1), .val (.int p2), .val (.int p3), .val (.int p4), .val (.int (f1 p0)), .val (.int (f1 p1)), .val (.int (f1 p2)), .val (.int (f1 p3)), o9, .val (.int cc), .val (.int dd), .val (.ref b5), .val (.ref b7), .val (.int (1 : Int32)), .val (.int (1 : Int32)), .unset]) rfl ?_
              show Steps p.tables e below (T10.setTop (mkF m 208 #[.val (.int p0), .val (.int p1), .val (.int p2), .val (.int p3), .val (.int p4), .val (.int (f1 p0)), .val (.int (f1 p1)), .val (.int (f1 p2)), .val (.int (f1 p3)), o9, .val (.int cc), .val (.int dd), .val (.ref b5), .val (.ref b7), .val (.int (1 : Int32)), .val (.int (1 : Int32)), .unset] [])) t
              refine XS.iload X10.here hx rfl (hb hby at_208) rfl ?_
              show Steps p.tables e below (T10.setTop (mkF m 210 #[.val (.int p0), .val (.int p1), .val (.int p2), .val (.int p3), .val (.int p4), .val (.int (f1 p0)), .val (.int (f1 p1)), .val (.int (f1 p2)), .val (.int (f1 p3)), o9, .val (.int cc), .val (.int dd), .val (.ref b5), .val (.ref b7), .val (.int (1 : Int32)), .val (.int (1 : Int32)), .unset] [(.int (1 : Int32))])) t
              refine XS.ifNo X10.here hx rfl (hb hby at_210) rfl ((if0 _ _).trans (feq (by decide : ¬ ((1 : Int32) = (0 : Int32)))).1) ?_
              show Steps p.tables e below (T10.setTop (mkF m 213 #[.val (.int p0), .val (.int p1), .val (.int p2), .val (.int p3), .val (.int p4), .val (.int (f1 p0)), .val (.int (f1 p1)), .val (.int (f1 p2)), .val (.int (f1 p3)), o9, .val (.int cc), .val (.int dd), .val (.ref b5), .val (.ref b7), .val (.int (1 : Int32)), .val (.int (1 : Int32)), .unset] [])) t
              refine XS.aload X10.here hx rfl (hb hby at_213) rfl rfl ?_
              show Steps p.tables e below (T10.setTop (mkF m 215 #[.val (.int p0), .val (.int p1), .val (.int p2), .val (.int p3), .val (.int p4), .val (.int (f1 p0)), .val (.int (f1 p1)), .val (.int (f1 p2)), .val (.int (f1 p3)), o9, .val (.int cc), .val (.int dd), .val (.ref b5), .val (.ref b7), .val (.int (1 : Int32)), .val (.int (1 : Int32)), .unset] [(.ref b5)])) t
              refine XS.aload X10.here hx rfl (hb hby at_215) rfl rfl ?_
              exact kt
            refine OGo.callV X10 hx hZ (y := (⟨"com/example/harlow/harlow/core/topology/NodePair", "equals", "(Ljava/lang/Object;)Z"⟩ : MethodName)) (z := (⟨"com/example/harlow/harlow/core/topology/NodePair", "equals", "(Ljava/lang/Object;)Z"⟩ : MethodName)) hown (own_wd hw 26 rfl) (own_wd hw 27 rfl) (notFace_of_selects (args := #[]) (mvT hZ (own_wd hw 29 rfl))) (own_wd hw 29 rfl) (own_wd hw 28 rfl) (own_wd hw 11 rfl) (own_wd hw 30 rfl) (by decide) (rm6 l Z az hw [] b5 b5 (f5 (f1 p0) (f1 p1)) (f5 (f1 p0) (f1 p1)) (f2 (f1 p0) (f1 p1)) (f2 (f1 p0) (f1 p1)) T8.heap n0 (Nat.le_trans Z0 KC8.1) ((P6_0.ext E7).keep K8) ((P6_1.ext E7).keep K8 (ninS (Nat.ne_of_lt (Nat.lt_of_lt_of_le P6_0.lt (Nat.le_of_eq g7.symm))) nin0)) ((P6_1.ext E7).keep K8 (ninS (Nat.ne_of_lt (Nat.lt_of_lt_of_le P6_0.lt (Nat.le_of_eq g7.symm))) nin0)) ((P6_2.ext E7).keep K8 (ninS (Nat.ne_of_lt (Nat.lt_of_lt_of_le P6_0.lt (Nat.le_of_eq g7.symm))) nin0)) ((P6_2.ext E7).keep K8 (ninS (Nat.ne_of_lt (Nat.lt_of_lt_of_le P6_0.lt (Nat.le_of_eq g7.symm))) nin0))) (W := 0) (by decide) (by decide) ((P6_0.ext E7).keep K8) (g := (mkF m 217 #[.val (.int p0), .val (.int p1), .val (.int p2), .val (.int p3), .val (.int p4), .val (.int (f1 p0)), .val (.int (f1 p1)), .val (.int (f1 p2)), .val (.int (f1 p3)), o9, .val (.int cc), .val (.int dd), .val (.ref b5), .val (.ref b7), .val (.int (1 : Int32)), .val (.int (1 : Int32)), .unset] [(.ref b5), (.ref b5)])) rfl (by rw [hml]; rfl) (argsL := [(.ref b5)]) (rest := []) (lenOf pd_0_2 rfl) rfl (by show 2 * 0 + _ ≤ _; exact Nat.le_of_eq rfl) (hb hby at_217) rfl e10 (by decide) (by decide) ?_
            rintro _ T11 L11 X11 ⟨rfl, Nq11, e11⟩
            have N11 := Fr.app N10 Nq11
            show OGo _ _ _ _ _ _ _ (T11.setTop (mkF m 220 #[.val (.int p0), .val (.int p1), .val (.int p2), .val (.int p3), .val (.int p4), .val (.int (f1 p0)), .val (.int (f1 p1)), .val (.int (f1 p2)), .val (.int (f1 p3)), o9, .val (.int cc), .val (.int dd), .val (.ref b5), .val (.ref b7), .val (.int (1 : Int32)), .val (.int (1 : Int32)), .unset] [(.int (f6 (f5 (f1 p0) (f1 p1)) (f5 (f1 p0) (f1 p1)) (f2 (f1 p0) (f1 p1)) (f2 (f1 p0) (f1 p1))))]))
            refine OGo.step (F' := T11.setTop (mkF m 238 #[.val (.int p0), .val (.int p1), .val (.int p2), .val (.int p3), .val (.int p4), .val (.int (f1 p0)), .val (.int (f1 p1)), .val (.int (f1 p2)), .val (.int (f1 p3)), o9, .val (.int cc), .val (.int dd), .val (.ref b5), .val (.ref b7), .val (.int (1 : Int32)), .val (.int (1 : Int32)), .unset] [.null, (.ref b5)])) (fun t kt => ?_) ?_
            · show Steps p.tables e below (T11.setTop (mkF m 220 #[.val (.int p0), .val (.int p1), .val (.int p2), .val (.int p3), .val (.int p4), .val (.int (f1 p0)), .val (.int (f1 p1)), .val (.int (f1 p2)), .val (.int (f1 p3)), o9, .val (.int cc), .val (.int dd), .val (.ref b5), .val (.ref b7), .val (.int (1 : Int32)), .val (.int (1 : Int32)), .unset] [(.int (f6 (f5 (f1 p0) (f1 p1)) (f5 (f1 p0) (f1 p1)) (f2 (f1 p0) (f1 p1)) (f2 (f1 p0) (f1 p1))))])) t
              refine XS.ifNo X11.here hx rfl (hb hby at_220) rfl ((if0 _ _).trans (feq (own_refl _ _)).1) ?_
              show Steps p.tables e below (T11.setTop (mkF m 223 #[.val (.int p0), .val (.int p1), .val (.int p2), .val (.int p3), .val (.int p4), .val (.int (f1 p0)), .val (.int (f1 p1)), .val (.int (f1 p2)), .val (.int (f1 p3)), o9, .val (.int cc), .val (.int dd), .val (.ref b5), .val (.ref b7), .val (.int (1 : Int32)), .val (.int (1 : Int32)), .unset] [])) t
              refine XS.iconst X11.here hx rfl (hb hby at_223) ?_
              show Steps p.tables e below (T11.setTop (mkF m 224 #[.val (.int p0), .val (.int p1), .val (.int p2), .val (.int p3), .val (.int p4), .val (.int (f1 p0)), .val (.int (f1 p1)), .val (.int (f1 p2)), .val (.int (f1 p3)), o9, .val (.int cc), .val (.int dd), .val (.ref b5), .val (.ref b7), .val (.int (1 : Int32)), .val (.int (1 : Int32)), .unset] [(.int (1 : Int32))])) t
              refine XS.goto X11.here hx rfl (pc0 := 224) (pc' := 228) rfl (hb hby at_224) (by decide) (by decide) ?_
              show Steps p.tables e below (T11.setTop (mkF m 228 #[.val (.int p0), .val (.int p1), .val (.int p2), .val (.int p3), .val (.int p4), .val (.int (f1 p0)), .val (.int (f1 p1)), .val (.int (f1 p2)), .val (.int (f1 p3)), o9, .val (.int cc), .val (.int dd), .val (.ref b5), .val (.ref b7), .val (.int (1 : Int32)), .val (.int (1 : Int32)), .unset] [(.int (1 : Int32))])) t
              refine XS.istore X11.here hx rfl (hb hby at_228) rfl (l' := #[.val (.int p0), .val (.int p1), .val (.int p2), .val (.int p3), .val (.int p4), .val (.int (f1 p0)), .val (.int (f1 p1)), .val (.int (f1 p2)), .val (.int (f1 p3)), o9, .val (.int cc), .val (.int dd), .val (.ref b5), .val (.ref b7), .val (.int (1 : Int32)), .val (.int (1 : Int32)), .unset]) rfl ?_
              show Steps p.tables e below (T11.setTop (mkF m 230 #[.val (.int p0), .val (.int p1), .val (.int p2), .val (.int p3), .val (.int p4), .val (.int (f1 p0)), .val (.int (f1 p1)), .val (.int (f1 p2)), .val (.int (f1 p3)), o9, .val (.int cc), .val (.int dd), .val (.ref b5), .val (.ref b7), .val (.int (1 : Int32)), .val (.int (1 : Int32)), .unset] [])) t
              refine XS.iload X11.here hx rfl (hb hby at_230) rfl ?_
              show Steps p.tables e below (T11.setTop (mkF m 232 #[.val (.int p0), .val (.int p1), .val (.int p2), .val (.int p3), .val (.int p4), .val (.int (f1 p0)), .val (.int (f1 p1)), .val (.int (f1 p2)), .val (.int (f1 p3)), o9, .val (.int cc), .val (.int dd), .val (.ref b5), .val (.ref b7), .val (.int (1 : Int32)), .val (.int (1 : Int32)), .unset] [(.int (1 : Int32))])) t
              refine XS.ifNo X11.here hx rfl (hb hby at_232) rfl ((if0 _ _).trans (feq (by decide : ¬ ((1 : Int32) = (0 : Int32)))).1) ?_
              show Steps p.tables e below (T11.setTop (mkF m 235 #[.val (.int p0), .val (.int p1), .val (.int p2), .val (.int p3), .val (.int p4), .val (.int (f1 p0)), .val (.int (f1 p1)), .val (.int (f1 p2)), .val (.int (f1 p3)), o9, .val (.int cc), .val (.int dd), .val (.ref b5), .val (.ref b7), .val (.int (1 : Int32)), .val (.int (1 : Int32)), .unset] [])) t
              refine XS.aload X11.here hx rfl (hb hby at_235) rfl rfl ?_
              show Steps p.tables e below (T11.setTop (mkF m 237 #[.val (.int p0), .val (.int p1), .val (.int p2), .val (.int p3), .val (.int p4), .val (.int (f1 p0)), .val (.int (f1 p1)), .val (.int (f1 p2)), .val (.int (f1 p3)), o9, .val (.int cc), .val (.int dd), .val (.ref b5), .val (.ref b7), .val (.int (1 : Int32)), .val (.int (1 : Int32)), .unset] [(.ref b5)])) t
              refine XS.aconstNull X11.here hx rfl (hb hby at_237) ?_
              exact kt
            refine OGo.callV X11 hx hZ (y := (⟨"com/example/harlow/harlow/core/topology/NodePair", "equals", "(Ljava/lang/Object;)Z"⟩ : MethodName)) (z := (⟨"com/example/harlow/harlow/core/topology/NodePair", "equals", "(Ljava/lang/Object;)Z"⟩ : MethodName)) hown (own_wd hw 26 rfl) (own_wd hw 27 rfl) (notFace_of_selects (args := #[]) (mvT hZ (own_wd hw 29 rfl))) (own_wd hw 29 rfl) (own_wd hw 28 rfl) (own_wd hw 11 rfl) (own_wd hw 30 rfl) (by decide) (rm6z l Z az hw [] b5 T8.heap n0 (Nat.le_trans Z0 KC8.1)) (W := 0) (by decide) (by decide) ((P6_0.ext E7).keep K8) (g := (mkF m 238 #[.val (.int p0), .val (.int p1), .val (.int p2), .val (.int p3), .val (.int p4), .val (.int (f1 p0)), .val (.int (f1 p1)), .val (.int (f1 p2)), .val (.int (f1 p3)), o9, .val (.int cc), .val (.int dd), .val (.ref b5), .val (.ref b7), .val (.int (1 : Int32)), .val (.int (1 : Int32)), .unset] [.null, (.ref b5)])) rfl (by rw [hml]; rfl) (argsL := [.null]) (rest := []) (lenOf pd_0_2 rfl) rfl (by show 2 * 0 + _ ≤ _; exact Nat.le_of_eq rfl) (hb hby at_238) rfl e11 (by decide) (by decide) ?_
            rintro _ T12 L12 X12 ⟨hv12, Nq12, e12⟩
            have N12 := Fr.app N11 Nq12
            rw [show f6z = (0 : Int32) from rfl] at hv12
            subst hv12
            show OGo _ _ _ _ _ _ _ (T12.setTop (mkF m 241 #[.val (.int p0), .val (.int p1), .val (.int p2), .val (.int p3), .val (.int p4), .val (.int (f1 p0)), .val (.int (f1 p1)), .val (.int (f1 p2)), .val (.int (f1 p3)), o9, .val (.int cc), .val (.int dd), .val (.ref b5), .val (.ref b7), .val (.int (1 : Int32)), .val (.int (1 : Int32)), .unset] [(.int (0 : Int32))]))
            refine OGo.step (F' := T12.setTop (mkF m 253 #[.val (.int p0), .val (.int p1), .val (.int p2), .val (.int p3), .val (.int p4), .val (.int (f1 p0)), .val (.int (f1 p1)), .val (.int (f1 p2)), .val (.int (f1 p3)), o9, .val (.int cc), .val (.int dd), .val (.ref b5), .val (.ref b7), .val (.int (1 : Int32)), .val (.int (1 : Int32)), .unset] [(.int (f1 p0))])) (fun t kt => ?_) ?_
            · show Steps p.tables e below (T12.setTop (mkF m 241 #[.val (.int p0), .val (.int p1), .val (.int p2), .val (.int p3), .val (.int p4), .val (.int (f1 p0)), .val (.int (f1 p1)), .val (.int (f1 p2)), .val (.int (f1 p3)), o9, .val (.int cc), .val (.int dd), .val (.ref b5), .val (.ref b7), .val (.int (1 : Int32)), .val (.int (1 : Int32)), .unset] [(.int (0 : Int32))])) t
              refine XS.ifNo X12.here hx rfl (hb hby at_241) rfl ((if0 _ _).trans (teq (by decide : (0 : Int32) = (0 : Int32))).2) ?_
              show Steps p.tables e below (T12.setTop (mkF m 244 #[.val (.int p0), .val (.int p1), .val (.int p2), .val (.int p3), .val (.int p4), .val (.int (f1 p0)), .val (.int (f1 p1)), .val (.int (f1 p2)), .val (.int (f1 p3)), o9, .val (.int cc), .val (.int dd), .val (.ref b5), .val (.ref b7), .val (.int (1 : Int32)), .val (.int (1 : Int32)), .unset] [])) t
              refine XS.iconst X12.here hx rfl (hb hby at_244) ?_
              show Steps p.tables e below (T12.setTop (mkF m 245 #[.val (.int p0), .val (.int p1), .val (.int p2), .val (.int p3), .val (.int p4), .val (.int (f1 p0)), .val (.int (f1 p1)), .val (.int (f1 p2)), .val (.int (f1 p3)), o9, .val (.int cc), .val (.int dd), .val (.ref b5), .val (.ref b7), .val (.int (1 : Int32)), .val (.int (1 : Int32)), .unset] [(.int (1 : Int32))])) t
              refine XS.goto X12.here hx rfl (pc0 := 245) (pc' := 249) rfl (hb hby at_245) (by decide) (by decide) ?_
              show Steps p.tables e below (T12.setTop (mkF m 249 #[.val (.int p0), .val (.int p1), .val (.int p2), .val (.int p3), .val (.int p4), .val (.int (f1 p0)), .val (.int (f1 p1)), .val (.int (f1 p2)), .val (.int (f1 p3)), o9, .val (.int cc), .val (.int dd), .val (.ref b5), .val (.ref b7), .val (.int (1 : Int32)), .val (.int (1 : Int32)), .unset] [(.int (1 : Int32))])) t
              refine XS.istore X12.here hx rfl (hb hby at_249) rfl (l' := #[.val (.int p0), .val (.int p1), .val (.int p2), .val (.int p3), .val (.int p4), .val (.int (f1 p0)), .val (.int (f1 p1)), .val (.int (f1 p2)), .val (.int (f1 p3)), o9, .val (.int cc), .val (.int dd), .val (.ref b5), .val (.ref b7), .val (.int (1 : Int32)), .val (.int (1 : Int32)), .unset]) rfl ?_
              show Steps p.tables e below (T12.setTop (mkF m 251 #[.val (.int p0), .val (.int p1), .val (.int p2), .val (.int p3), .val (.int p4), .val (.int (f1 p0)), .val (.int (f1 p1)), .val (.int (f1 p2)), .val (.int (f1 p3)), o9, .val (.int cc), .val (.int dd), .val (.ref b5), .val (.ref b7), .val (.int (1 : Int32)), .val (.int (1 : Int32)), .unset] [])) t
              refine XS.iload X12.here hx rfl (hb hby at_251) rfl ?_
              exact kt
            refine OGo.callS X12 hx hZ (y := (⟨"java/lang/Integer", "valueOf", "(I)Ljava/lang/Integer;"⟩ : MethodName)) hown (own_wd hw 33 rfl) (own_wd hw 34 rfl) (own_wd hw 35 rfl) (own_wd hw 36 rfl) (by decide) (rm7 l Z az hw [] (f1 p0) w_high w_cache T8.heap n0 (Nat.le_trans Z0 KC8.1) (own_stakeep ((own_stakeep (S_high.ext E5) K6 (allS (own_obj A5) all0)).ext E7) K8 (allS (own_obj A7) all0)) (own_stakeep ((own_stakeep (S_cache.ext E5) K6 (allS (own_obj A5) all0)).ext E7) K8 (allS (own_obj A7) all0)) hHi ((((Ca.ext E5).keep K6 (ninS (Nat.ne_of_lt (Nat.lt_of_lt_of_le Ca.lt (Nat.le_of_eq g5.symm))) nin0)).ext E7).keep K8 (ninS (Nat.ne_of_lt (Nat.lt_of_lt_of_le ((Ca.ext E5).keep K6 (ninS (Nat.ne_of_lt (Nat.lt_of_lt_of_le Ca.lt (Nat.le_of_eq g5.symm))) nin0)).lt (Nat.le_of_eq g7.symm))) nin0))) (W := 0) (by decide) (by decide) (g := (mkF m 253 #[.val (.int p0), .val (.int p1), .val (.int p2), .val (.int p3), .val (.int p4), .val (.int (f1 p0)), .val (.int (f1 p1)), .val (.int (f1 p2)), .val (.int (f1 p3)), o9, .val (.int cc), .val (.int dd), .val (.ref b5), .val (.ref b7), .val (.int (1 : Int32)), .val (.int (1 : Int32)), .unset] [(.int (f1 p0))])) rfl (by rw [hml]; rfl) (argsL := [(.int (f1 p0))]) (rest := []) (lenOf pd_0_3 rfl) rfl (by show 2 * 0 + _ ≤ _; exact Nat.le_of_eq rfl) (hb hby at_253) rfl e12 (by decide) (by decide) ?_
            rintro _ T13 L13 X13 ⟨r13_r, rfl, Nq13, K13, P13_0⟩
            have KC13 : Keep h0 T13.heap [] := KC8.trans K13 all0
            have N13 := Fr.app N12 Nq13
            show OGo _ _ _ _ _ _ _ (T13.setTop (mkF m 256 #[.val (.int p0), .val (.int p1), .val (.int p2), .val (.int p3), .val (.int p4), .val (.int (f1 p0)), .val (.int (f1 p1)), .val (.int (f1 p2)), .val (.int (f1 p3)), o9, .val (.int cc), .val (.int dd), .val (.ref b5), .val (.ref b7), .val (.int (1 : Int32)), .val (.int (1 : Int32)), .unset] [(.ref r13_r)]))
            refine OGo.step (F' := T13.setTop (mkF m 267 #[.val (.int p0), .val (.int p1), .val (.int p2), .val (.int p3), .val (.int p4), .val (.int (f1 p0)), .val (.int (f1 p1)), .val (.int (f1 p2)), .val (.int (f1 p3)), o9, .val (.int cc), .val (.int dd), .val (.ref b5), .val (.ref b7), .val (.int (1 : Int32)), .val (.int (1 : Int32)), .val (.ref r13_r)] [(.ref r13_r), (.ref b5)])) (fun t kt => ?_) ?_
            · show Steps p.tables e below (T13.setTop (mkF m 256 #[.val (.int p0), .val (.int p1), .val (.int p2), .val (.int p3), .val (.int p4), .val (.int (f1 p0)), .val (.int (f1 p1)), .val (.int (f1 p2)), .val (.int (f1 p3)), o9, .val (.int cc), .val (.int dd), .val (.ref b5), .val (.ref b7), .val (.int (1 : Int32)), .val (.int (1 : Int32)), .unset] [(.ref r13_r)])) t
              refine XS.astore X13.here hx rfl (hb hby at_256) rfl rfl (l' := #[.val (.int p0), .val (.int p1), .val (.int p2), .val (.int p3), .val (.int p4), .val (.int (f1 p0)), .val (.int (f1 p1)), .val (.int (f1 p2)), .val (.int (f1 p3)), o9, .val (.int cc), .val (.int dd), .val (.ref b5), .val (.ref b7), .val (.int (1 : Int32)), .val (.int (1 : Int32)), .val (.ref r13_r)]) rfl ?_
              show Steps p.tables e below (T13.setTop (mkF m 258 #[.val (.int p0), .val (.int p1), .val (.int p2), .val (.int p3), .val (.int p4), .val (.int (f1 p0)), .val (.int (f1 p1)), .val (.int (f1 p2)), .val (.int (f1 p3)), o9, .val (.int cc), .val (.int dd), .val (.ref b5), .val (.ref b7), .val (.int (1 : Int32)), .val (.int (1 : Int32)), .val (.ref r13_r)] [])) t
              refine XS.iload X13.here hx rfl (hb hby at_258) rfl ?_
              show Steps p.tables e below (T13.setTop (mkF m 260 #[.val (.int p0), .val (.int p1), .val (.int p2), .val (.int p3), .val (.int p4), .val (.int (f1 p0)), .val (.int (f1 p1)), .val (.int (f1 p2)), .val (.int (f1 p3)), o9, .val (.int cc), .val (.int dd), .val (.ref b5), .val (.ref b7), .val (.int (1 : Int32)), .val (.int (1 : Int32)), .val (.ref r13_r)] [(.int (1 : Int32))])) t
              refine XS.ifNo X13.here hx rfl (hb hby at_260) rfl ((if0 _ _).trans (feq (by decide : ¬ ((1 : Int32) = (0 : Int32)))).1) ?_
              show Steps p.tables e below (T13.setTop (mkF m 263 #[.val (.int p0), .val (.int p1), .val (.int p2), .val (.int p3), .val (.int p4), .val (.int (f1 p0)), .val (.int (f1 p1)), .val (.int (f1 p2)), .val (.int (f1 p3)), o9, .val (.int cc), .val (.int dd), .val (.ref b5), .val (.ref b7), .val (.int (1 : Int32)), .val (.int (1 : Int32)), .val (.ref r13_r)] [])) t
              refine XS.aload X13.here hx rfl (hb hby at_263) rfl rfl ?_
              show Steps p.tables e below (T13.setTop (mkF m 265 #[.val (.int p0), .val (.int p1), .val (.int p2), .val (.int p3), .val (.int p4), .val (.int (f1 p0)), .val (.int (f1 p1)), .val (.int (f1 p2)), .val (.int (f1 p3)), o9, .val (.int cc), .val (.int dd), .val (.ref b5), .val (.ref b7), .val (.int (1 : Int32)), .val (.int (1 : Int32)), .val (.ref r13_r)] [(.ref b5)])) t
              refine XS.aload X13.here hx rfl (hb hby at_265) rfl rfl ?_
              exact kt
            refine OGo.callV X13 hx hZ (y := (⟨"com/example/harlow/harlow/core/topology/NodePair", "equals", "(Ljava/lang/Object;)Z"⟩ : MethodName)) (z := (⟨"com/example/harlow/harlow/core/topology/NodePair", "equals", "(Ljava/lang/Object;)Z"⟩ : MethodName)) hown (own_wd hw 26 rfl) (own_wd hw 27 rfl) (notFace_of_selects (args := #[]) (mvT hZ (own_wd hw 29 rfl))) (own_wd hw 29 rfl) (own_wd hw 28 rfl) (own_wd hw 11 rfl) (own_wd hw 30 rfl) (by decide) (rm6n l Z az hw [] b5 r13_r T13.heap n0 (Nat.le_trans Z0 KC13.1) P13_0) (W := 0) (by decide) (by decide) (((P6_0.ext E7).keep K8).keep K13) (g := (mkF m 267 #[.val (.int p0), .val (.int p1), .val (.int p2), .val (.int p3), .val (.int p4), .val (.int (f1 p0)), .val (.int (f1 p1)), .val (.int (f1 p2)), .val (.int (f1 p3)), o9, .val (.int cc), .val (.int dd), .val (.ref b5), .val (.ref b7), .val (.int (1 : Int32)), .val (.int (1 : Int32)), .val (.ref r13_r)] [(.ref r13_r), (.ref b5)])) rfl (by rw [hml]; rfl) (argsL := [(.ref r13_r)]) (rest := []) (lenOf pd_0_2 rfl) rfl (by show 2 * 0 + _ ≤ _; exact Nat.le_of_eq rfl) (hb hby at_267) rfl rfl (by decide) (by decide) ?_
            rintro _ T14 L14 X14 ⟨hv14, Nq14, e14⟩
            have N14 := Fr.app N13 Nq14
            rw [show f6n = (0 : Int32) from rfl] at hv14
            subst hv14
            show OGo _ _ _ _ _ _ _ (T14.setTop (mkF m 270 #[.val (.int p0), .val (.int p1), .val (.int p2), .val (.int p3), .val (.int p4), .val (.int (f1 p0)), .val (.int (f1 p1)), .val (.int (f1 p2)), .val (.int (f1 p3)), o9, .val (.int cc), .val (.int dd), .val (.ref b5), .val (.ref b7), .val (.int (1 : Int32)), .val (.int (1 : Int32)), .val (.ref r13_r)] [(.int (0 : Int32))]))
            refine OGo.step (F' := T14.setTop (mkF m 282 #[.val (.int p0), .val (.int p1), .val (.int p2), .val (.int p3), .val (.int p4), .val (.int (f1 p0)), .val (.int (f1 p1)), .val (.int (f1 p2)), .val (.int (f1 p3)), o9, .val (.int cc), .val (.int dd), .val (.ref b5), .val (.ref b7), .val (.int (1 : Int32)), .val (.int (1 : Int32)), .val (.ref r13_r)] [(.int (1 : Int32))])) (fun t kt => ?_) ?_
            · show Steps p.tables e below (T14.setTop (mkF m 270 #[.val (.int p0), .val (.int p1), .val (.int p2), .val (.int p3), .val (.int p4), .val (.int (f1 p0)), .val (.int (f1 p1)), .val (.int (f1 p2)), .val (.int (f1 p3)), o9, .val (.int cc), .val (.int dd), .val (.ref b5), .val (.ref b7), .val (.int (1 : Int32)), .val (.int (1 : Int32)), .val (.ref r13_r)] [(.int (0 : Int32))])) t
              refine XS.ifNo X14.here hx rfl (hb hby at_270) rfl ((if0 _ _).trans (teq (by decide : (0 : Int32) = (0 : Int32))).2) ?_
              show Steps p.tables e below (T14.setTop (mkF m 273 #[.val (.int p0), .val (.int p1), .val (.int p2), .val (.int p3), .val (.int p4), .val (.int (f1 p0)), .val (.int (f1 p1)), .val (.int (f1 p2)), .val (.int (f1 p3)), o9, .val (.int cc), .val (.int dd), .val (.ref b5), .val (.ref b7), .val (.int (1 : Int32)), .val (.int (1 : Int32)), .val (.ref r13_r)] [])) t
              refine XS.iconst X14.here hx rfl (hb hby at_273) ?_
              show Steps p.tables e below (T14.setTop (mkF m 274 #[.val (.int p0), .val (.int p1), .val (.int p2), .val (.int p3), .val (.int p4), .val (.int (f1 p0)), .val (.int (f1 p1)), .val (.int (f1 p2)), .val (.int (f1 p3)), o9, .val (.int cc), .val (.int dd), .val (.ref b5), .val (.ref b7), .val (.int (1 : Int32)), .val (.int (1 : Int32)), .val (.ref r13_r)] [(.int (1 : Int32))])) t
              refine XS.goto X14.here hx rfl (pc0 := 274) (pc' := 278) rfl (hb hby at_274) (by decide) (by decide) ?_
              show Steps p.tables e below (T14.setTop (mkF m 278 #[.val (.int p0), .val (.int p1), .val (.int p2), .val (.int p3), .val (.int p4), .val (.int (f1 p0)), .val (.int (f1 p1)), .val (.int (f1 p2)), .val (.int (f1 p3)), o9, .val (.int cc), .val (.int dd), .val (.ref b5), .val (.ref b7), .val (.int (1 : Int32)), .val (.int (1 : Int32)), .val (.ref r13_r)] [(.int (1 : Int32))])) t
              refine XS.istore X14.here hx rfl (hb hby at_278) rfl (l' := #[.val (.int p0), .val (.int p1), .val (.int p2), .val (.int p3), .val (.int p4), .val (.int (f1 p0)), .val (.int (f1 p1)), .val (.int (f1 p2)), .val (.int (f1 p3)), o9, .val (.int cc), .val (.int dd), .val (.ref b5), .val (.ref b7), .val (.int (1 : Int32)), .val (.int (1 : Int32)), .val (.ref r13_r)]) rfl ?_
              show Steps p.tables e below (T14.setTop (mkF m 280 #[.val (.int p0), .val (.int p1), .val (.int p2), .val (.int p3), .val (.int p4), .val (.int (f1 p0)), .val (.int (f1 p1)), .val (.int (f1 p2)), .val (.int (f1 p3)), o9, .val (.int cc), .val (.int dd), .val (.ref b5), .val (.ref b7), .val (.int (1 : Int32)), .val (.int (1 : Int32)), .val (.ref r13_r)] [])) t
              refine XS.iload X14.here hx rfl (hb hby at_280) rfl ?_
              exact kt
            refine OGo.retZ X14 hx hlk (t := .boolean) (z' := (1 : Int32)) hret (by simp) (hb hby at_282) rfl ?_ (by decide) (by decide)
            show Q0 Z p0 p1 p2 p3 p4 w_high w_cache h0 n0 _ T14.heap _
            rw [e14]
            exact ⟨rfl, N14, KC13⟩
          · refine OGo.step (F' := T8.setTop (mkF m 144 #[.val (.int p0), .val (.int p1), .val (.int p2), .val (.int p3), .val (.int p4), .val (.int (f1 p0)), .val (.int (f1 p1)), .val (.int (f1 p2)), .val (.int (f1 p3)), o9, .val (.int cc), .val (.int dd), .val (.ref b5), .val (.ref b7), .unset, .unset, .unset] [])) (fun t kt => ?_) ?_
            · show Steps p.tables e below (T8.setTop (mkF m 141 #[.val (.int p0), .val (.int p1), .val (.int p2), .val (.int p3), .val (.int p4), .val (.int (f1 p0)), .val (.int (f1 p1)), .val (.int (f1 p2)), .val (.int (f1 p3)), o9, .val (.int cc), .val (.int dd), .val (.ref b5), .val (.ref b7), .unset, .unset, .unset] [(.int dd), (.int (f1 p1))])) t
              refine XS.icmpNo X8.here hx rfl (hb hby at_141) rfl (feq hc141).1 ?_
              exact kt
            refine OGo.step (F' := T8.setTop (mkF m 148 #[.val (.int p0), .val (.int p1), .val (.int p2), .val (.int p3), .val (.int p4), .val (.int (f1 p0)), .val (.int (f1 p1)), .val (.int (f1 p2)), .val (.int (f1 p3)), o9, .val (.int cc), .val (.int dd), .val (.ref b5), .val (.ref b7), .unset, .unset, .unset] [(.int dd), (.int (f1 p0))])) (fun t kt => ?_) ?_
            · show Steps p.tables e below (T8.setTop (mkF m 144 #[.val (.int p0), .val (.int p1), .val (.int p2), .val (.int p3), .val (.int p4), .val (.int (f1 p0)), .val (.int (f1 p1)), .val (.int (f1 p2)), .val (.int (f1 p3)), o9, .val (.int cc), .val (.int dd), .val (.ref b5), .val (.ref b7), .unset, .unset, .unset] [])) t
              refine XS.iload X8.here hx rfl (hb hby at_144) rfl ?_
              show Steps p.tables e below (T8.setTop (mkF m 146 #[.val (.int p0), .val (.int p1), .val (.int p2), .val (.int p3), .val (.int p4), .val (.int (f1 p0)), .val (.int (f1 p1)), .val (.int (f1 p2)), .val (.int (f1 p3)), o9, .val (.int cc), .val (.int dd), .val (.ref b5), .val (.ref b7), .unset, .unset, .unset] [(.int (f1 p0))])) t
              refine XS.iload X8.here hx rfl (hb hby at_146) rfl ?_
              exact kt
            by_cases hc148 : (f1 p0) = dd
            · refine OGo.step (F' := T8.setTop (mkF m 151 #[.val (.int p0), .val (.int p1), .val (.int p2), .val (.int p3), .val (.int p4), .val (.int (f1 p0)), .val (.int (f1 p1)), .val (.int (f1 p2)), .val (.int (f1 p3)), o9, .val (.int cc), .val (.int dd), .val (.ref b5), .val (.ref b7), .unset, .unset, .unset] [])) (fun t kt => ?_) ?_
              · show Steps p.tables e below (T8.setTop (mkF m 148 #[.val (.int p0), .val (.int p1), .val (.int p2), .val (.int p3), .val (.int p4), .val (.int (f1 p0)), .val (.int (f1 p1)), .val (.int (f1 p2)), .val (.int (f1 p3)), o9, .val (.int cc), .val (.int dd), .val (.ref b5), .val (.ref b7), .unset, .unset, .unset] [(.int dd), (.int (f1 p0))])) t
                refine XS.icmpNo X8.here hx rfl (hb hby at_148) rfl (teq hc148).2 ?_
                exact kt
              refine OGo.step (F' := T8.setTop (mkF m 155 #[.val (.int p0), .val (.int p1), .val (.int p2), .val (.int p3), .val (.int p4), .val (.int (f1 p0)), .val (.int (f1 p1)), .val (.int (f1 p2)), .val (.int (f1 p3)), o9, .val (.int cc), .val (.int dd), .val (.ref b5), .val (.ref b7), .unset, .unset, .unset] [(.int cc), (.int (f1 p1))])) (fun t kt => ?_) ?_
              · show Steps p.tables e below (T8.setTop (mkF m 151 #[.val (.int p0), .val (.int p1), .val (.int p2), .val (.int p3), .val (.int p4), .val (.int (f1 p0)), .val (.int (f1 p1)), .val (.int (f1 p2)), .val (.int (f1 p3)), o9, .val (.int cc), .val (.int dd), .val (.ref b5), .val (.ref b7), .unset, .unset, .unset] [])) t
                refine XS.iload X8.here hx rfl (hb hby at_151) rfl ?_
                show Steps p.tables e below (T8.setTop (mkF m 153 #[.val (.int p0), .val (.int p1), .val (.int p2), .val (.int p3), .val (.int p4), .val (.int (f1 p0)), .val (.int (f1 p1)), .val (.int (f1 p2)), .val (.int (f1 p3)), o9, .val (.int cc), .val (.int dd), .val (.ref b5), .val (.ref b7), .unset, .unset, .unset] [(.int (f1 p1))])) t
                refine XS.iload X8.here hx rfl (hb hby at_153) rfl ?_
                exact kt
              by_cases hc155 : (f1 p1) = cc
              · refine OGo.step (F' := T8.setTop (mkF m 158 #[.val (.int p0), .val (.int p1), .val (.int p2), .val (.int p3), .val (.int p4), .val (.int (f1 p0)), .val (.int (f1 p1)), .val (.int (f1 p2)), .val (.int (f1 p3)), o9, .val (.int cc), .val (.int dd), .val (.ref b5), .val (.ref b7), .unset, .unset, .unset] [])) (fun t kt => ?_) ?_
                · show Steps p.tables e below (T8.setTop (mkF m 155 #[.val (.int p0), .val (.int p1), .val (.int p2), .val (.int p3), .val (.int p4), .val (.int (f1 p0)), .val (.int (f1 p1)), .val (.int (f1 p2)), .val (.int (f1 p3)), o9, .val (.int cc), .val (.int dd), .val (.ref b5), .val (.ref b7), .unset, .unset, .unset] [(.int cc), (.int (f1 p1))])) t
                  refine XS.icmpNo X8.here hx rfl (hb hby at_155) rfl (teq hc155).2 ?_
                  exact kt
                refine OGo.step (F' := T8.setTop (mkF m 169 #[.val (.int p0), .val (.int p1), .val (.int p2), .val (.int p3), .val (.int p4), .val (.int (f1 p0)), .val (.int (f1 p1)), .val (.int (f1 p2)), .val (.int (f1 p3)), o9, .val (.int cc), .val (.int dd), .val (.ref b5), .val (.ref b7), .val (.int (1 : Int32)), .unset, .unset] [(.ref b7), (.ref b5)])) (fun t kt => ?_) ?_
                · show Steps p.tables e below (T8.setTop (mkF m 158 #[.val (.int p0), .val (.int p1), .val (.int p2), .val (.int p3), .val (.int p4), .val (.int (f1 p0)), .val (.int (f1 p1)), .val (.int (f1 p2)), .val (.int (f1 p3)), o9, .val (.int cc), .val (.int dd), .val (.ref b5), .val (.ref b7), .unset, .unset, .unset] [])) t
                  refine XS.iconst X8.here hx rfl (hb hby at_158) ?_
                  show Steps p.tables e below (T8.setTop (mkF m 159 #[.val (.int p0), .val (.int p1), .val (.int p2), .val (.int p3), .val (.int p4), .val (.int (f1 p0)), .val (.int (f1 p1)), .val (.int (f1 p2)), .val (.int (f1 p3)), o9, .val (.int cc), .val (.int dd), .val (.ref b5), .val (.ref b7), .unset, .unset, .unset] [(.int (1 : Int32))])) t
                  refine XS.goto X8.here hx rfl (pc0 := 159) (pc' := 163) rfl (hb hby at_159) (by decide) (by decide) ?_
                  show Steps p.tables e below (T8.setTop (mkF m 163 #[.val (.int p0), .val (.int p1), .val (.int p2), .val (.int p3), .val (.int p4), .val (.int (f1 p0)), .val (.int (f1 p1)), .val (.int (f1 p2)), .val (.int (f1 p3)), o9, .val (.int cc), .val (.int dd), .val (.ref b5), .val (.ref b7), .unset, .unset, .unset] [(.int (1 : Int32))])) t
                  refine XS.istore X8.here hx rfl (hb hby at_163) rfl (l' := #[.val (.int p0), .val (.int p1), .val (.int p2), .val (.int p3), .val (.int p4), .val (.int (f1 p0)), .val (.int (f1 p1)), .val (.int (f1 p2)), .val (.int (f1 p3)), o9, .val (.int cc), .val (.int dd), .val (.ref b5), .val (.ref b7), .val (.int (1 : Int32)), .unset, .unset]) rfl ?_
                  show Steps p.tables e below (T8.setTop (mkF m 165 #[.val (.int p0), .val (.int p1), .val (.int p2), .val (.int p3), .val (.int p4), .val (.int (f1 p0)), .val (.int (f1 p1)), .val (.int (f1 p2)), .val (.int (f1 p3)), o9, .val (.int cc), .val (.int dd), .val (.ref b5), .val (.ref b7), .val (.int (1 : Int32)), .unset, .unset] [])) t
                  refine XS.aload X8.here hx rfl (hb hby at_165) rfl rfl ?_
                  show Steps p.tables e below (T8.setTop (mkF m 167 #[.val (.int p0), .val (.int p1), .val (.int p2), .val (.int p3), .val (.int p4), .val (.int (f1 p0)), .val (.int (f1 p1)), .val (.int (f1 p2)), .val (.int (f1 p3)), o9, .val (.int cc), .val (.int dd), .val (.ref b5), .val (.ref b7), .val (.int (1 : Int32)), .unset, .unset] [(.ref b5)])) t
                  refine XS.aload X8.here hx rfl (hb hby at_167) rfl rfl ?_
                  exact kt
                refine OGo.callV X8 hx hZ (y := (⟨"com/example/harlow/harlow/core/topology/NodePair", "equals", "(Ljava/lang/Object;)Z"⟩ : MethodName)) (z := (⟨"com/example/harlow/harlow/core/topology/NodePair", "equals", "(Ljava/lang/Object;)Z"⟩ : MethodName)) hown (own_wd hw 26 rfl) (own_wd hw 27 rfl) (notFace_of_selects (args := #[]) (mvT hZ (own_wd hw 29 rfl))) (own_wd hw 29 rfl) (own_wd hw 28 rfl) (own_wd hw 11 rfl) (own_wd hw 30 rfl) (by decide) (rm6 l Z az hw [] b5 b7 (f5 cc dd) (f5 (f1 p0) (f1 p1)) (f2 cc dd) (f2 (f1 p0) (f1 p1)) T8.heap n0 (Nat.le_trans Z0 KC8.1) P8_0 P8_1 ((P6_1.ext E7).keep K8 (ninS (Nat.ne_of_lt (Nat.lt_of_lt_of_le P6_0.lt (Nat.le_of_eq g7.symm))) nin0)) P8_2 ((P6_2.ext E7).keep K8 (ninS (Nat.ne_of_lt (Nat.lt_of_lt_of_le P6_0.lt (Nat.le_of_eq g7.symm))) nin0))) (W := 0) (by decide) (by decide) ((P6_0.ext E7).keep K8) (g := (mkF m 169 #[.val (.int p0), .val (.int p1), .val (.int p2), .val (.int p3), .val (.int p4), .val (.int (f1 p0)), .val (.int (f1 p1)), .val (.int (f1 p2)), .val (.int (f1 p3)), o9, .val (.int cc), .val (.int dd), .val (.ref b5), .val (.ref b7), .val (.int (1 : Int32)), .unset, .unset] [(.ref b7), (.ref b5)])) rfl (by rw [hml]; rfl) (argsL := [(.ref b7)]) (rest := []) (lenOf pd_0_2 rfl) rfl (by show 2 * 0 + _ ≤ _; exact Nat.le_of_eq rfl) (hb hby at_169) rfl rfl (by decide) (by decide) ?_
                rintro _ T15 L15 X15 ⟨rfl, Nq15, e15⟩
                have N15 := Fr.app N8 Nq15
                show OGo _ _ _ _ _ _ _ (T15.setTop (mkF m 172 #[.val (.int p0), .val (.int p1), .val (.int p2), .val (.int p3), .val (.int p4), .val (.int (f1 p0)), .val (.int (f1 p1)), .val (.int (f1 p2)), .val (.int (f1 p3)), o9, .val (.int cc), .val (.int dd), .val (.ref b5), .val (.ref b7), .val (.int (1 : Int32)), .unset, .unset] [(.int (f6 (f5 cc dd) (f5 (f1 p0) (f1 p1)) (f2 cc dd) (f2 (f1 p0) (f1 p1))))]))
                refine OGo.step (F' := T15.setTop (mkF m 193 #[.val (.int p0), .val (.int p1), .val (.int p2), .val (.int p3), .val (.int p4), .val (.int (f1 p0)), .val (.int (f1 p1)), .val (.int (f1 p2)), .val (.int (f1 p3)), o9, .val (.int cc), .val (.int dd), .val (.ref b5), .val (.ref b7), .val (.int (1 : Int32)), .val (.int (1 : Int32)), .unset] [(.ref b5), (.ref b7)])) (fun t kt => ?_) ?_
                · show Steps p.tables e below (T15.setTop (mkF m 172 #[.val (.int p0), .val (.int p1), .val (.int p2), .val (.int p3), .val (.int p4), .val (.int (f1 p0)), .val (.int (f1 p1)), .val (.int (f1 p2)), .val (.int (f1 p3)), o9, .val (.int cc), .val (.int dd), .val (.ref b5), .val (.ref b7), .val (.int (1 : Int32)), .unset, .unset] [(.int (f6 (f5 cc dd) (f5 (f1 p0) (f1 p1)) (f2 cc dd) (f2 (f1 p0) (f1 p1))))])) t
                  refine XS.iload X15.here hx rfl (hb hby at_172) rfl ?_
                  show Steps p.tables e below (T15.setTop (mkF m 174 #[.val (.int p0), .val (.int p1), .val (.int p2), .val (.int p3), .val (.int p4), .val (.int (f1 p0)), .val (.int (f1 p1)), .val (.int (f1 p2)), .val (.int (f1 p3)), o9, .val (.int cc), .val (.int dd), .val (.ref b5), .val (.ref b7), .val (.int (1 : Int32)), .unset, .unset] [(.int (1 : Int32)), (.int (f6 (f5 cc dd) (f5 (f1 p0) (f1 p1)) (f2 cc dd) (f2 (f1 p0) (f1 p1))))])) t
                  refine XS.icmpNo X15.here hx rfl (hb hby at_174) rfl (teq (own_eq1 (Or.inr ⟨hc148, hc155⟩))).2 ?_
                  show Steps p.tables e below (T15.setTop (mkF m 177 #[.val (.int p0), .val (.int p1), .val (.int p2), .val (.int p3), .val (.int p4), .val (.int (f1 p0)), .val (.int (f1 p1)), .val (.int (f1 p2)), .val (.int (f1 p3)), o9, .val (.int cc), .val (.int dd), .val (.ref b5), .val (.ref b7), .val (.int (1 : Int32)), .unset, .unset] [])) t
                  refine XS.iconst X15.here hx rfl (hb hby at_177) ?_
                  show Steps p.tables e below (T15.setTop (mkF m 178 #[.val (.int p0), .val (.int p1), .val (.int p2), .val (.int p3), .val (.int p4), .val (.int (f1 p0)), .val (.int (f1 p1)), .val (.int (f1 p2)), .val (.int (f1 p3)), o9, .val (.int cc), .val (.int dd), .val (.ref b5), .val (.ref b7), .val (.int (1 : Int32)), .unset, .unset] [(.int (1 : Int32))])) t
                  refine XS.goto X15.here hx rfl (pc0 := 178) (pc' := 182) rfl (hb hby at_178) (by decide) (by decide) ?_
                  show Steps p.tables e below (T15.setTop (mkF m 182 #[.val (.int p0), .val (.int p1), .val (.int p2), .val (.int p3), .val (.int p4), .val (.int (f1 p0)), .val (.int (f1 p1)), .val (.int (f1 p2)), .val (.int (f1 p3)), o9, .val (.int cc), .val (.int dd), .val (.ref b5), .val (.ref b7), .val (.int (1 : Int32)), .unset, .unset] [(.int (1 : Int32))])) t
                  refine XS.istore X15.here hx rfl (hb hby at_182) rfl (l' := #[.val (.int p0), .val (.int p1), .val (.int p2), .val (.int p3), .val (.int p4), .val (.int (f1 p0)), .val (.int (f1 p1)), .val (.int (f1 p2)), .val (.int (f1 p3)), o9, .val (.int cc), .val (.int dd), .val (.ref b5), .val (.ref b7), .val (.int (1 : Int32)), .val (.int (1 : Int32)), .unset]) rfl ?_
                  show Steps p.tables e below (T15.setTop (mkF m 184 #[.val (.int p0), .val (.int p1), .val (.int p2), .val (.int p3), .val (.int p4), .val (.int (f1 p0)), .val (.int (f1 p1)), .val (.int (f1 p2)), .val (.int (f1 p3)), o9, .val (.int cc), .val (.int dd), .val (.ref b5), .val (.ref b7), .val (.int (1 : Int32)), .val (.int (1 : Int32)), .unset] [])) t
                  refine XS.iload X15.here hx rfl (hb hby at_184) rfl ?_
                  show Steps p.tables e below (T15.setTop (mkF m 186 #[.val (.int p0), .val (.int p1), .val (.int p2), .val (.int p3), .val (.int p4), .val (.int (f1 p0)), .val (.int (f1 p1)), .val (.int (f1 p2)), .val (.int (f1 p3)), o9, .val (.int cc), .val (.int dd), .val (.ref b5), .val (.ref b7), .val (.int (1 : Int32)), .val (.int (1 : Int32)), .unset] [(.int (1 : Int32))])) t
                  refine XS.ifNo X15.here hx rfl (hb hby at_186) rfl ((if0 _ _).trans (feq (by decide : ¬ ((1 : Int32) = (0 : Int32)))).1) ?_
                  show Steps p.tables e below (T15.setTop (mkF m 189 #[.val (.int p0), .val (.int p1), .val (.int p2), .val (.int p3), .val (.int p4), .val (.int (f1 p0)), .val (.int (f1 p1)), .val (.int (f1 p2)), .val (.int (f1 p3)), o9, .val (.int cc), .val (.int dd), .val (.ref b5), .val (.ref b7), .val (.int (1 : Int32)), .val (.int (1 : Int32)), .unset] [])) t
                  refine XS.aload X15.here hx rfl (hb hby at_189) rfl rfl ?_
                  show Steps p.tables e below (T15.setTop (mkF m 191 #[.val (.int p0), .val (.int p1), .val (.int p2), .val (.int p3), .val (.int p4), .val (.int (f1 p0)), .val (.int (f1 p1)), .val (.int (f1 p2)), .val (.int (f1 p3)), o9, .val (.int cc), .val (.int dd), .val (.ref b5), .val (.ref b7), .val (.int (1 : Int32)), .val (.int (1 : Int32)), .unset] [(.ref b7)])) t
                  refine XS.aload X15.here hx rfl (hb hby at_191) rfl rfl ?_
                  exact kt
                refine OGo.callV X15 hx hZ (y := (⟨"com/example/harlow/harlow/core/topology/NodePair", "equals", "(Ljava/lang/Object;)Z"⟩ : MethodName)) (z := (⟨"com/example/harlow/harlow/core/topology/NodePair", "equals", "(Ljava/lang/Object;)Z"⟩ : MethodName)) hown (own_wd hw 26 rfl) (own_wd hw 27 rfl) (notFace_of_selects (args := #[]) (mvT hZ (own_wd hw 29 rfl))) (own_wd hw 29 rfl) (own_wd hw 28 rfl) (own_wd hw 11 rfl) (own_wd hw 30 rfl) (by decide) (rm6 l Z az hw [] b7 b5 (f5 (f1 p0) (f1 p1)) (f5 cc dd) (f2 (f1 p0) (f1 p1)) (f2 cc dd) T8.heap n0 (Nat.le_trans Z0 KC8.1) ((P6_0.ext E7).keep K8) ((P6_1.ext E7).keep K8 (ninS (Nat.ne_of_lt (Nat.lt_of_lt_of_le P6_0.lt (Nat.le_of_eq g7.symm))) nin0)) P8_1 ((P6_2.ext E7).keep K8 (ninS (Nat.ne_of_lt (Nat.lt_of_lt_of_le P6_0.lt (Nat.le_of_eq g7.symm))) nin0)) P8_2) (W := 0) (by decide) (by decide) P8_0 (g := (mkF m 193 #[.val (.int p0), .val (.int p1), .val (.int p2), .val (.int p3), .val (.int p4), .val (.int (f1 p0)), .val (.int (f1 p1)), .val (.int (f1 p2)), .val (.int (f1 p3)), o9, .val (.int cc), .val (.int dd), .val (.ref b5), .val (.ref b7), .val (.int (1 : Int32)), .val (.int (1 : Int32)), .unset] [(.ref b5), (.ref b7)])) rfl (by rw [hml]; rfl) (argsL := [(.ref b5)]) (rest := []) (lenOf pd_0_2 rfl) rfl (by show 2 * 0 + _ ≤ _; exact Nat.le_of_eq rfl) (hb hby at_193) rfl e15 (by decide) (by decide) ?_
                rintro _ T16 L16 X16 ⟨rfl, Nq16, e16⟩
                have N16 := Fr.app N15 Nq16
                show OGo _ _ _ _ _ _ _ (T16.setTop (mkF m 196 #[.val (.int p0), .val (.int p1), .val (.int p2), .val (.int p3), .val (.int p4), .val (.int (f1 p0)), .val (.int (f1 p1)), .val (.int (f1 p2)), .val (.int (f1 p3)), o9, .val (.int cc), .val (.int dd), .val (.ref b5), .val (.ref b7), .val (.int (1 : Int32)), .val (.int (1 : Int32)), .unset] [(.int (f6 (f5 (f1 p0) (f1 p1)) (f5 cc dd) (f2 (f1 p0) (f1 p1)) (f2 cc dd)))]))
                refine OGo.step (F' := T16.setTop (mkF m 217 #[.val (.int p0), .val (.int p1), .val (.int p2), .val (.int p3), .val (.int p4), .val (.int (f1 p0)), .val (.int (f1 p1)), .val (.int (f1 p2)), .val (.int (f1 p3)), o9, .val (.int cc), .val (.int dd), .val (.ref b5), .val (.ref b7), .val (.int (1 : Int32)), .val (.int (1 : Int32)), .unset] [(.ref b5), (.ref b5)])) (fun t kt => ?_) ?_
                · show Steps p.tables e below (T16.setTop (mkF m 196 #[.val (.int p0), .val (.int p1), .val (.int p2), .val (.int p3), .val (.int p4), .val (.int (f1 p0)), .val (.int (f1 p1)), .val (.int (f1 p2)), .val (.int (f1 p3)), o9, .val (.int cc), .val (.int dd), .val (.ref b5), .val (.ref b7), .val (.int (1 : Int32)), .val (.int (1 : Int32)), .unset] [(.int (f6 (f5 (f1 p0) (f1 p1)) (f5 cc dd) (f2 (f1 p0) (f1 p1)) (f2 cc dd)))])) t
                  refine XS.iload X16.here hx rfl (hb hby at_196) rfl ?_
                  show Steps p.tables e below (T16.setTop (mkF m 198 #[.val (.int p0), .val (.int p1), .val (.int p2), .val (.int p3), .val (.int p4), .val (.int (f1 p0)), .val (.int (f1 p1)), .val (.int (f1 p2)), .val (.int (f1 p3)), o9, .val (.int cc), .val (.int dd), .val (.ref b5), .val (.ref b7), .val (.int (1 : Int32)), .val (.int (1 : Int32)), .unset] [(.int (1 : Int32)), (.int (f6 (f5 (f1 p0) (f1 p1)) (f5 cc dd) (f2 (f1 p0) (f1 p1)) (f2 cc dd)))])) t
                  refine XS.icmpNo X16.here hx rfl (hb hby at_198) rfl (teq ((own_com _ _ _ _).trans (own_eq1 (Or.inr ⟨hc148, hc155⟩)))).2 ?_
                  show Steps p.tables e below (T16.setTop (mkF m 201 #[.val (.int p0), .val (.int p1), .val (.int p2), .val (.int p3), .val (.int p4), .val (.int (f1 p0)), .val (.int (f1 p1)), .val (.int (f1 p2)), .val (.int (f1 p3)), o9, .val (.int cc), .val (.int dd), .val (.ref b5), .val (.ref b7), .val (.int (1 : Int32)), .val (.int (1 : Int32)), .unset] [])) t
                  refine XS.iconst X16.here hx rfl (hb hby at_201) ?_
                  show Steps p.tables e below (T16.setTop (mkF m 202 #[.val (.int p0), .val (.int p1), .val (.int p2), .val (.int p3), .val (.int p4), .val (.int (f1 p0)), .val (.int (f1 p1)), .val (.int (f1 p2)), .val (.int (f1 p3)), o9, .val (.int cc), .val (.int dd), .val (.ref b5), .val (.ref b7), .val (.int (1 : Int32)), .val (.int (1 : Int32)), .unset] [(.int (1 : Int32))])) t
                  refine XS.goto X16.here hx rfl (pc0 := 202) (pc' := 206) rfl (hb hby at_202) (by decide) (by decide) ?_
                  show Steps p.tables e below (T16.setTop (mkF m 206 #[.val (.int p0), .val (.int p1), .val (.int p2), .val (.int p3), .val (.int p4), .val (.int (f1 p0)), .val (.int (f1 p1)), .val (.int (f1 p2)), .val (.int (f1 p3)), o9, .val (.int cc), .val (.int dd), .val (.ref b5), .val (.ref b7), .val (.int (1 : Int32)), .val (.int (1 : Int32)), .unset] [(.int (1 : Int32))])) t
                  refine XS.istore X16.here hx rfl (hb hby at_206) rfl (l' := #[.val (.int p0), .val (.int p1), .val (.int p2), .val (.int p3), .val (.int p4), .val (.int (f1 p0)), .val (.int (f1 p1)), .val (.int (f1 p2)), .val (.int (f1 p3)), o9, .val (.int cc), .val (.int dd), .val (.ref b5), .val (.ref b7), .val (.int (1 : Int32)), .val (.int (1 : Int32)), .unset]) rfl ?_
                  show Steps p.tables e below (T16.setTop (mkF m 208 #[.val (.int p0), .val (.int p1), .val (.int p2), .val (.int p3), .val (.int p4), .val (.int (f1 p0)), .val (.int (f1 p1)), .val (.int (f1 p2)), .val (.int (f1 p3)), o9, .val (.int cc), .val (.int dd), .val (.ref b5), .val (.ref b7), .val (.int (1 : Int32)), .val (.int (1 : Int32)), .unset] [])) t
                  refine XS.iload X16.here hx rfl (hb hby at_208) rfl ?_
                  show Steps p.tables e below (T16.setTop (mkF m 210 #[.val (.int p0), .val (.int p1), .val (.int p2), .val (.int p3), .val (.int p4), .val (.int (f1 p0)), .val (.int (f1 p1)), .val (.int (f1 p2)), .val (.int (f1 p3)), o9, .val (.int cc), .val (.int dd), .val (.ref b5), .val (.ref b7), .val (.int (1 : Int32)), .val (.int (1 : Int32)), .unset] [(.int (1 : Int32))])) t
                  refine XS.ifNo X16.here hx rfl (hb hby at_210) rfl ((if0 _ _).trans (feq (by decide : ¬ ((1 : Int32) = (0 : Int32)))).1) ?_
                  show Steps p.tables e below (T16.setTop (mkF m 213 #[.val (.int p0), .val (.int p1), .val (.int p2), .val (.int p3), .val (.int p4), .val (.int (f1 p0)), .val (.int (f1 p1)), .val (.int (f1 p2)), .val (.int (f1 p3)), o9, .val (.int cc), .val (.int dd), .val (.ref b5), .val (.ref b7), .val (.int (1 : Int32)), .val (.int (1 : Int32)), .unset] [])) t
                  refine XS.aload X16.here hx rfl (hb hby at_213) rfl rfl ?_
                  show Steps p.tables e below (T16.setTop (mkF m 215 #[.val (.int p0), .val (.int p1), .val (.int p2), .val (.int p3), .val (.int p4), .val (.int (f1 p0)), .val (.int (f1 p1)), .val (.int (f1 p2)), .val (.int (f1 p3)), o9, .val (.int cc), .val (.int dd), .val (.ref b5), .val (.ref b7), .val (.int (1 : Int32)), .val (.int (1 : Int32)), .unset] [(.ref b5)])) t
                  refine XS.aload X16.here hx rfl (hb hby at_215) rfl rfl ?_
                  exact kt
                refine OGo.callV X16 hx hZ (y := (⟨"com/example/harlow/harlow/core/topology/NodePair", "equals", "(Ljava/lang/Object;)Z"⟩ : MethodName)) (z := (⟨"com/example/harlow/harlow/core/topology/NodePair", "equals", "(Ljava/lang/Object;)Z"⟩ : MethodName)) hown (own_wd hw 26 rfl) (own_wd hw 27 rfl) (notFace_of_selects (args := #[]) (mvT hZ (own_wd hw 29 rfl))) (own_wd hw 29 rfl) (own_wd hw 28 rfl) (own_wd hw 11 rfl) (own_wd hw 30 rfl) (by decide) (rm6 l Z az hw [] b5 b5 (f5 (f1 p0) (f1 p1)) (f5 (f1 p0) (f1 p1)) (f2 (f1 p0) (f1 p1)) (f2 (f1 p0) (f1 p1)) T8.heap n0 (Nat.le_trans Z0 KC8.1) ((P6_0.ext E7).keep K8) ((P6_1.ext E7).keep K8 (ninS (Nat.ne_of_lt (Nat.lt_of_lt_of_le P6_0.lt (Nat.le_of_eq g7.symm))) nin0)) ((P6_1.ext E7).keep K8 (ninS (Nat.ne_of_lt (Nat.lt_of_lt_of_le P6_0.lt (Nat.le_of_eq g7.symm))) nin0)) ((P6_2.ext E7).keep K8 (ninS (Nat.ne_of_lt (Nat.lt_of_lt_of_le P6_0.lt (Nat.le_of_eq g7.symm))) nin0)) ((P6_2.ext E7).keep K8 (ninS (Nat.ne_of_lt (Nat.lt_of_lt_of_le P6_0.lt (Nat.le_of_eq g7.symm))) nin0))) (W := 0) (by decide) (by decide) ((P6_0.ext E7).keep K8) (g := (mkF m 217 #[.val (.int p0), .val (.int p1), .val (.int p2), .val (.int p3), .val (.int p4), .val (.int (f1 p0)), .val (.int (f1 p1)), .val (.int (f1 p2)), .val (.int (f1 p3)), o9, .val (.int cc), .val (.int dd), .val (.ref b5), .val (.ref b7), .val (.int (1 : Int32)), .val (.int (1 : Int32)), .unset] [(.ref b5), (.ref b5)])) rfl (by rw [hml]; rfl) (argsL := [(.ref b5)]) (rest := []) (lenOf pd_0_2 rfl) rfl (by show 2 * 0 + _ ≤ _; exact Nat.le_of_eq rfl) (hb hby at_217) rfl e16 (by decide) (by decide) ?_
                rintro _ T17 L17 X17 ⟨rfl, Nq17, e17⟩
                have N17 := Fr.app N16 Nq17
                show OGo _ _ _ _ _ _ _ (T17.setTop (mkF m 220 #[.val (.int p0), .val (.int p1), .val (.int p2), .val (.int p3), .val (.int p4), .val (.int (f1 p0)), .val (.int (f1 p1)), .val (.int (f1 p2)), .val (.int (f1 p3)), o9, .val (.int cc), .val (.int dd), .val (.ref b5), .val (.ref b7), .val (.int (1 : Int32)), .val (.int (1 : Int32)), .unset] [(.int (f6 (f5 (f1 p0) (f1 p1)) (f5 (f1 p0) (f1 p1)) (f2 (f1 p0) (f1 p1)) (f2 (f1 p0) (f1 p1))))]))
                refine OGo.step (F' := T17.setTop (mkF m 238 #[.val (.int p0), .val (.int p1), .val (.int p2), .val (.int p3), .val (.int p4), .val (.int (f1 p0)), .val (.int (f1 p1)), .val (.int (f1 p2)), .val (.int (f1 p3)), o9, .val (.int cc), .val (.int dd), .val (.ref b5), .val (.ref b7), .val (.int (1 : Int32)), .val (.int (1 : Int32)), .unset] [.null, (.ref b5)])) (fun t kt => ?_) ?_
                · show Steps p.tables e below (T17.setTop (mkF m 220 #[.val (.int p0), .val (.int p1), .val (.int p2), .val (.int p3), .val (.int p4), .val (.int (f1 p0)), .val (.int (f1 p1)), .val (.int (f1 p2)), .val (.int (f1 p3)), o9, .val (.int cc), .val (.int dd), .val (.ref b5), .val (.ref b7), .val (.int (1 : Int32)), .val (.int (1 : Int32)), .unset] [(.int (f6 (f5 (f1 p0) (f1 p1)) (f5 (f1 p0) (f1 p1)) (f2 (f1 p0) (f1 p1)) (f2 (f1 p0) (f1 p1))))])) t
                  refine XS.ifNo X17.here hx rfl (hb hby at_220) rfl ((if0 _ _).trans (feq (own_refl _ _)).1) ?_
                  show Steps p.tables e below (T17.setTop (mkF m 223 #[.val (.int p0), .val (.int p1), .val (.int p2), .val (.int p3), .val (.int p4), .val (.int (f1 p0)), .val (.int (f1 p1)), .val (.int (f1 p2)), .val (.int (f1 p3)), o9, .val (.int cc), .val (.int dd), .val (.ref b5), .val (.ref b7), .val (.int (1 : Int32)), .val (.int (1 : Int32)), .unset] [])) t
                  refine XS.iconst X17.here hx rfl (hb hby at_223) ?_
                  show Steps p.tables e below (T17.setTop (mkF m 224 #[.val (.int p0), .val (.int p1), .val (.int p2), .val (.int p3), .val (.int p4), .val (.int (f1 p0)), .val (.int (f1 p1)), .val (.int (f1 p2)), .val (.int (f1 p3)), o9, .val (.int cc), .val (.int dd), .val (.ref b5), .val (.ref b7), .val (.int (1 : Int32)), .val (.int (1 : Int32)), .unset] [(.int (1 : Int32))])) t
                  refine XS.goto X17.here hx rfl (pc0 := 224) (pc' := 228) rfl (hb hby at_224) (by decide) (by decide) ?_
                  show Steps p.tables e below (T17.setTop (mkF m 228 #[.val (.int p0), .val (.int p1), .val (.int p2), .val (.int p3), .val (.int p4), .val (.int (f1 p0)), .val (.int (f1 p1)), .val (.int (f1 p2)), .val (.int (f1 p3)), o9, .val (.int cc), .val (.int dd), .val (.ref b5), .val (.ref b7), .val (.int (1 : Int32)), .val (.int (1 : Int32)), .unset] [(.int (1 : Int32))])) t
                  refine XS.istore X17.here hx rfl (hb hby at_228) rfl (l' := #[.val (.int p0), .val (.int p1), .val (.int p2), .val (.int p3), .val (.int p4), .val (.int (f1 p0)), .val (.int (f1 p1)), .val (.int (f1 p2)), .val (.int (f1 p3)), o9, .val (.int cc), .val (.int dd), .val (.ref b5), .val (.ref b7), .val (.int (1 : Int32)), .val (.int (1 : Int32)), .unset]) rfl ?_
                  show Steps p.tables e below (T17.setTop (mkF m 230 #[.val (.int p0), .val (.int p1), .val (.int p2), .val (.int p3), .val (.int p4), .val (.int (f1 p0)), .val (.int (f1 p1)), .val (.int (f1 p2)), .val (.int (f1 p3)), o9, .val (.int cc), .val (.int dd), .val (.ref b5), .val (.ref b7), .val (.int (1 : Int32)), .val (.int (1 : Int32)), .unset] [])) t
                  refine XS.iload X17.here hx rfl (hb hby at_230) rfl ?_
                  show Steps p.tables e below (T17.setTop (mkF m 232 #[.val (.int p0), .val (.int p1), .val (.int p2), .val (.int p3), .val (.int p4), .val (.int (f1 p0)), .val (.int (f1 p1)), .val (.int (f1 p2)), .val (.int (f1 p3)), o9, .val (.int cc), .val (.int dd), .val (.ref b5), .val (.ref b7), .val (.int (1 : Int32)), .val (.int (1 : Int32)), .unset] [(.int (1 : Int32))])) t
                  refine XS.ifNo X17.here hx rfl (hb hby at_232) rfl ((if0 _ _).trans (feq (by decide : ¬ ((1 : Int32) = (0 : Int32)))).1) ?_
                  show Steps p.tables e below (T17.setTop (mkF m 235 #[.val (.int p0), .val (.int p1), .val (.int p2), .val (.int p3), .val (.int p4), .val (.int (f1 p0)), .val (.int (f1 p1)), .val (.int (f1 p2)), .val (.int (f1 p3)), o9, .val (.int cc), .val (.int dd), .val (.ref b5), .val (.ref b7), .val (.int (1 : Int32)), .val (.int (1 : Int32)), .unset] [])) t
                  refine XS.aload X17.here hx rfl (hb hby at_235) rfl rfl ?_
                  show Steps p.tables e below (T17.setTop (mkF m 237 #[.val (.int p0), .val (.int p1), .val (.int p2), .val (.int p3), .val (.int p4), .val (.int (f1 p0)), .val (.int (f1 p1)), .val (.int (f1 p2)), .val (.int (f1 p3)), o9, .val (.int cc), .val (.int dd), .val (.ref b5), .val (.ref b7), .val (.int (1 : Int32)), .val (.int (1 : Int32)), .unset] [(.ref b5)])) t
                  refine XS.aconstNull X17.here hx rfl (hb hby at_237) ?_
                  exact kt
                refine OGo.callV X17 hx hZ (y := (⟨"com/example/harlow/harlow/core/topology/NodePair", "equals", "(Ljava/lang/Object;)Z"⟩ : MethodName)) (z := (⟨"com/example/harlow/harlow/core/topology/NodePair", "equals", "(Ljava/lang/Object;)Z"⟩ : MethodName)) hown (own_wd hw 26 rfl) (own_wd hw 27 rfl) (notFace_of_selects (args := #[]) (mvT hZ (own_wd hw 29 rfl))) (own_wd hw 29 rfl) (own_wd hw 28 rfl) (own_wd hw 11 rfl) (own_wd hw 30 rfl) (by decide) (rm6z l Z az hw [] b5 T8.heap n0 (Nat.le_trans Z0 KC8.1)) (W := 0) (by decide) (by decide) ((P6_0.ext E7).keep K8) (g := (mkF m 238 #[.val (.int p0), .val (.int p1), .val (.int p2), .val (.int p3), .val (.int p4), .val (.int (f1 p0)), .val (.int (f1 p1)), .val (.int (f1 p2)), .val (.int (f1 p3)), o9, .val (.int cc), .val (.int dd), .val (.ref b5), .val (.ref b7), .val (.int (1 : Int32)), .val (.int (1 : Int32)), .unset] [.null, (.ref b5)])) rfl (by rw [hml]; rfl) (argsL := [.null]) (rest := []) (lenOf pd_0_2 rfl) rfl (by show 2 * 0 + _ ≤ _; exact Nat.le_of_eq rfl) (hb hby at_238) rfl e17 (by decide) (by decide) ?_
                rintro _ T18 L18 X18 ⟨hv18, Nq18, e18⟩
                have N18 := Fr.app N17 Nq18
                rw [show f6z = (0 : Int32) from rfl] at hv18
                subst hv18
                show OGo _ _ _ _ _ _ _ (T18.setTop (mkF m 241 #[.val (.int p0), .val (.int p1), .val (.int p2), .val (.int p3), .val (.int p4), .val (.int (f1 p0)), .val (.int (f1 p1)), .val (.int (f1 p2)), .val (.int (f1 p3)), o9, .val (.int cc), .val (.int dd), .val (.ref b5), .val (.ref b7), .val (.int (1 : Int32)), .val (.int (1 : Int32)), .unset] [(.int (0 : Int32))]))
                refine OGo.step (F' := T18.setTop (mkF m 253 #[.val (.int p0), .val (.int p1), .val (.int p2), .val (.int p3), .val (.int p4), .val (.int (f1 p0)), .val (.int (f1 p1)), .val (.int (f1 p2)), .val (.int (f1 p3)), o9, .val (.int cc), .val (.int dd), .val (.ref b5), .val (.ref b7), .val (.int (1 : Int32)), .val (.int (1 : Int32)), .unset] [(.int (f1 p0))])) (fun t kt => ?_) ?_
                · show Steps p.tables e below (T18.setTop (mkF m 241 #[.val (.int p0), .val (.int p1), .val (.int p2), .val (.int p3), .val (.int p4), .val (.int (f1 p0)), .val (.int (f1 p1)), .val (.int (f1 p2)), .val (.int (f1 p3)), o9, .val (.int cc), .val (.int dd), .val (.ref b5), .val (.ref b7), .val (.int (1 : Int32)), .val (.int (1 : Int32)), .unset] [(.int (0 : Int32))])) t
                  refine XS.ifNo X18.here hx rfl (hb hby at_241) rfl ((if0 _ _).trans (teq (by decide : (0 : Int32) = (0 : Int32))).2) ?_
                  show Steps p.tables e below (T18.setTop (mkF m 244 #[.val (.int p0), .val (.int p1), .val (.int p2), .val (.int p3), .val (.int p4), .val (.int (f1 p0)), .val (.int (f1 p1)), .val (.int (f1 p2)), .val (.int (f1 p3)), o9, .val (.int cc), .val (.int dd), .val (.ref b5), .val (.ref b7), .val (.int (1 : Int32)), .val (.int (1 : Int32)), .unset] [])) t
                  refine XS.iconst X18.here hx rfl (hb hby at_244) ?_
                  show Steps p.tables e below (T18.setTop (mkF m 245 #[.val (.int p0), .val (.int p1), .val (.int p2), .val (.int p3), .val (.int p4), .val (.int (f1 p0)), .val (.int (f1 p1)), .val (.int (f1 p2)), .val (.int (f1 p3)), o9, .val (.int cc), .val (.int dd), .val (.ref b5), .val (.ref b7), .val (.int (1 : Int32)), .val (.int (1 : Int32)), .unset] [(.int (1 : Int32))])) t
                  refine XS.goto X18.here hx rfl (pc0 := 245) (pc' := 249) rfl (hb hby at_245) (by decide) (by decide) ?_
                  show Steps p.tables e below (T18.setTop (mkF m 249 #[.val (.int p0), .val (.int p1), .val (.int p2), .val (.int p3), .val (.int p4), .val (.int (f1 p0)), .val (.int (f1 p1)), .val (.int (f1 p2)), .val (.int (f1 p3)), o9, .val (.int cc), .val (.int dd), .val (.ref b5), .val (.ref b7), .val (.int (1 : Int32)), .val (.int (1 : Int32)), .unset] [(.int (1 : Int32))])) t
                  refine XS.istore X18.here hx rfl (hb hby at_249) rfl (l' := #[.val (.int p0), .val (.int p1), .val (.int p2), .val (.int p3), .val (.int p4), .val (.int (f1 p0)), .val (.int (f1 p1)), .val (.int (f1 p2)), .val (.int (f1 p3)), o9, .val (.int cc), .val (.int dd), .val (.ref b5), .val (.ref b7), .val (.int (1 : Int32)), .val (.int (1 : Int32)), .unset]) rfl ?_
                  show Steps p.tables e below (T18.setTop (mkF m 251 #[.val (.int p0), .val (.int p1), .val (.int p2), .val (.int p3), .val (.int p4), .val (.int (f1 p0)), .val (.int (f1 p1)), .val (.int (f1 p2)), .val (.int (f1 p3)), o9, .val (.int cc), .val (.int dd), .val (.ref b5), .val (.ref b7), .val (.int (1 : Int32)), .val (.int (1 : Int32)), .unset] [])) t
                  refine XS.iload X18.here hx rfl (hb hby at_251) rfl ?_
                  exact kt
                refine OGo.callS X18 hx hZ (y := (⟨"java/lang/Integer", "valueOf", "(I)Ljava/lang/Integer;"⟩ : MethodName)) hown (own_wd hw 33 rfl) (own_wd hw 34 rfl) (own_wd hw 35 rfl) (own_wd hw 36 rfl) (by decide) (rm7 l Z az hw [] (f1 p0) w_high w_cache T8.heap n0 (Nat.le_trans Z0 KC8.1) (own_stakeep ((own_stakeep (S_high.ext E5) K6 (allS (own_obj A5) all0)).ext E7) K8 (allS (own_obj A7) all0)) (own_stakeep ((own_stakeep (S_cache.ext E5) K6 (allS (own_obj A5) all0)).ext E7) K8 (allS (own_obj A7) all0)) hHi ((((Ca.ext E5).keep K6 (ninS (Nat.ne_of_lt (Nat.lt_of_lt_of_le Ca.lt (Nat.le_of_eq g5.symm))) nin0)).ext E7).keep K8 (ninS (Nat.ne_of_lt (Nat.lt_of_lt_of_le ((Ca.ext E5).keep K6 (ninS (Nat.ne_of_lt (Nat.lt_of_lt_of_le Ca.lt (Nat.le_of_eq g5.symm))) nin0)).lt (Nat.le_of_eq g7.symm))) nin0))) (W := 0) (by decide) (by decide) (g := (mkF m 253 #[.val (.int p0), .val (.int p1), .val (.int p2), .val (.int p3), .val (.int p4), .val (.int (f1 p0)), .val (.int (f1 p1)), .val (.int (f1 p2)), .val (.int (f1 p3)), o9, .val (.int cc), .val (.int dd), .val (.ref b5), .val (.ref b7), .val (.int (1 : Int32)), .val (.int (1 : Int32)), .unset] [(.int (f1 p0))])) rfl (by rw [hml]; rfl) (argsL := [(.int (f1 p0))]) (rest := []) (lenOf pd_0_3 rfl) rfl (by show 2 * 0 + _ ≤ _; exact Nat.le_of_eq rfl) (hb hby at_253) rfl e18 (by decide) (by decide) ?_
                rintro _ T19 L19 X19 ⟨r19_r, rfl, Nq19, K19, P19_0⟩
                have KC19 : Keep h0 T19.heap [] := KC8.trans K19 all0
                have N19 := Fr.app N18 Nq19
                show OGo _ _ _ _ _ _ _ (T19.setTop (mkF m 256 #[.val (.int p0), .val (.int p1), .val (.int p2), .val (.int p3), .val (.int p4), .val (.int (f1 p0)), .val (.int (f1 p1)), .val (.int (f1 p2)), .val (.int (f1 p3)), o9, .val (.int cc), .val (.int dd), .val (.ref b5), .val (.ref b7), .val (.int (1 : Int32)), .val (.int (1 : Int32)), .unset] [(.ref r19_r)]))
                refine OGo.step (F' := T19.setTop (mkF m 267 #[.val (.int p0), .val (.int p1), .val (.int p2), .val (.int p3), .val (.int p4), .val (.int (f1 p0)), .val (.int (f1 p1)), .val (.int (f1 p2)), .val (.int (f1 p3)), o9, .val (.int cc), .val (.int dd), .val (.ref b5), .val (.ref b7), .val (.int (1 : Int32)), .val (.int (1 : Int32)), .val (.ref r19_r)] [(.ref r19_r), (.ref b5)])) (fun t kt => ?_) ?_
                · show Steps p.tables e below (T19.setTop (mkF m 256 #[.val (.int p0), .val (.int p1), .val (.int p2), .val (.int p3), .val (.int p4), .val (.int (f1 p0)), .val (.int (f1 p1)), .val (.int (f1 p2)), .val (.int (f1 p3)), o9, .val (.int cc), .val (.int dd), .val (.ref b5), .val (.ref b7), .val (.int (1 : Int32)), .val (.int (1 : Int32)), .unset] [(.ref r19_r)])) t
                  refine XS.astore X19.here hx rfl (hb hby at_256) rfl rfl (l' := #[.val (.int p0), .val (.int p1), .val (.int p2), .val (.int p3), .val (.int p4), .val (.int (f1 p0)), .val (.int (f1 p1)), .val (.int (f1 p2)), .val (.int (f1 p3)), o9, .val (.int cc), .val (.int dd), .val (.ref b5), .val (.ref b7), .val (.int (1 : Int32)), .val (.int (1 : Int32)), .val (.ref r19_r)]) rfl ?_
                  show Steps p.tables e below (T19.setTop (mkF m 258 #[.val (.int p0), .val (.int p1), .val (.int p2), .val (.int p3), .val (.int p4), .val (.int (f1 p0)), .val (.int (f1 p1)), .val (.int (f1 p2)), .val (.int (f1 p3)), o9, .val (.int cc), .val (.int dd), .val (.ref b5), .val (.ref b7), .val (.int (1 : Int32)), .val (.int (1 : Int32)), .val (.ref r19_r)] [])) t
                  refine XS.iload X19.here hx rfl (hb hby at_258) rfl ?_
                  show Steps p.tables e below (T19.setTop (mkF m 260 #[.val (.int p0), .val (.int p1), .val (.int p2), .val (.int p3), .val (.int p4), .val (.int (f1 p0)), .val (.int (f1 p1)), .val (.int (f1 p2)), .val (.int (f1 p3)), o9, .val (.int cc), .val (.int dd), .val (.ref b5), .val (.ref b7), .val (.int (1 : Int32)), .val (.int (1 : Int32)), .val (.ref r19_r)] [(.int (1 : Int32))])) t
                  refine XS.ifNo X19.here hx rfl (hb hby at_260) rfl ((if0 _ _).trans (feq (by decide : ¬ ((1 : Int32) = (0 : Int32)))).1) ?_
                  show Steps p.tables e below (T19.setTop (mkF m 263 #[.val (.int p0), .val (.int p1), .val (.int p2), .val (.int p3), .val (.int p4), .val (.int (f1 p0)), .val (.int (f1 p1)), .val (.int (f1 p2)), .val (.int (f1 p3)), o9, .val (.int cc), .val (.int dd), .val (.ref b5), .val (.ref b7), .val (.int (1 : Int32)), .val (.int (1 : Int32)), .val (.ref r19_r)] [])) t
                  refine XS.aload X19.here hx rfl (hb hby at_263) rfl rfl ?_
                  show Steps p.tables e below (T19.setTop (mkF m 265 #[.val (.int p0), .val (.int p1), .val (.int p2), .val (.int p3), .val (.int p4), .val (.int (f1 p0)), .val (.int (f1 p1)), .val (.int (f1 p2)), .val (.int (f1 p3)), o9, .val (.int cc), .val (.int dd), .val (.ref b5), .val (.ref b7), .val (.int (1 : Int32)), .val (.int (1 : Int32)), .val (.ref r19_r)] [(.ref b5)])) t
                  refine XS.aload X19.here hx rfl (hb hby at_265) rfl rfl ?_
                  exact kt
                refine OGo.callV X19 hx hZ (y := (⟨"com/example/harlow/harlow/core/topology/NodePair", "equals", "(Ljava/lang/Object;)Z"⟩ : MethodName)) (z := (⟨"com/example/harlow/harlow/core/topology/NodePair", "equals", "(Ljava/lang/Object;)Z"⟩ : MethodName)) hown (own_wd hw 26 rfl) (own_wd hw 27 rfl) (notFace_of_selects (args := #[]) (mvT hZ (own_wd hw 29 rfl))) (own_wd hw 29 rfl) (own_wd hw 28 rfl) (own_wd hw 11 rfl) (own_wd hw 30 rfl) (by decide) (rm6n l Z az hw [] b5 r19_r T19.heap n0 (Nat.le_trans Z0 KC19.1) P19_0) (W := 0) (by decide) (by decide) (((P6_0.ext E7).keep K8).keep K19) (g := (mkF m 267 #[.val (.int p0), .val (.int p1), .val (.int p2), .val (.int p3), .val (.int p4), .val (.int (f1 p0)), .val (.int (f1 p1)), .val (.int (f1 p2)), .val (.int (f1 p3)), o9, .val (.int cc), .val (.int dd), .val (.ref b5), .val (.ref b7), .val (.int (1 : Int32)), .val (.int (1 : Int32)), .val (.ref r19_r)] [(.ref r19_r), (.ref b5)])) rfl (by rw [hml]; rfl) (argsL := [(.ref r19_r)]) (rest := []) (lenOf pd_0_2 rfl) rfl (by show 2 * 0 + _ ≤ _; exact Nat.le_of_eq rfl) (hb hby at_267) rfl rfl (by decide) (by decide) ?_
                rintro _ T20 L20 X20 ⟨hv20, Nq20, e20⟩
                have N20 := Fr.app N19 Nq20
                rw [show f6n = (0 : Int32) from rfl] at hv20
                subst hv20
                show OGo _ _ _ _ _ _ _ (T20.setTop (mkF m 270 #[.val (.int p0), .val (.int p1), .val (.int p2), .val (.int p3), .val (.int p4), .val (.int (f1 p0)), .val (.int (f1 p1)), .val (.int (f1 p2)), .val (.int (f1 p3)), o9, .val (.int cc), .val (.int dd), .val (.ref b5), .val (.ref b7), .val (.int (1 : Int32)), .val (.int (1 : Int32)), .val (.ref r19_r)] [(.int (0 : Int32))]))
                refine OGo.step (F' := T20.setTop (mkF m 282 #[.val (.int p0), .val (.int p1), .val (.int p2), .val (.int p3), .val (.int p4), .val (.int (f1 p0)), .val (.int (f1 p1)), .val (.int (f1 p2)), .val (.int (f1 p3)), o9, .val (.int cc), .val (.int dd), .val (.ref b5), .val (.ref b7), .val (.int (1 : Int32)), .val (.int (1 : Int32)), .val (.ref r19_r)] [(.int (1 : Int32))])) (fun t kt => ?_) ?_
                · show Steps p.tables e below (T20.setTop (mkF m 270 #[.val (.int p0), .val (.int p1), .val (.int p2), .val (.int p3), .val (.int p4), .val (.int (f1 p0)), .val (.int (f1 p1)), .val (.int (f1 p2)), .val (.int (f1 p3)), o9, .val (.int cc), .val (.int dd), .val (.ref b5), .val (.ref b7), .val (.int (1 : Int32)), .val (.int (1 : Int32)), .val (.ref r19_r)] [(.int (0 : Int32))])) t
                  refine XS.ifNo X20.here hx rfl (hb hby at_270) rfl ((if0 _ _).trans (teq (by decide : (0 : Int32) = (0 : Int32))).2) ?_
                  show Steps p.tables e below (T20.setTop (mkF m 273 #[.val (.int p0), .val (.int p1), .val (.int p2), .val (.int p3), .val (.int p4), .val (.int (f1 p0)), .val (.int (f1 p1)), .val (.int (f1 p2)), .val (.int (f1 p3)), o9, .val (.int cc), .val (.int dd), .val (.ref b5), .val (.ref b7), .val (.int (1 : Int32)), .val (.int (1 : Int32)), .val (.ref r19_r)] [])) t
                  refine XS.iconst X20.here hx rfl (hb hby at_273) ?_
                  show Steps p.tables e below (T20.setTop (mkF m 274 #[.val (.int p0), .val (.int p1), .val (.int p2), .val (.int p3), .val (.int p4), .val (.int (f1 p0)), .val (.int (f1 p1)), .val (.int (f1 p2)), .val (.int (f1 p3)), o9, .val (.int cc), .val (.int dd), .val (.ref b5), .val (.ref b7), .val (.int (1 : Int32)), .val (.int (1 : Int32)), .val (.ref r19_r)] [(.int (1 : Int32))])) t
                  refine XS.goto X20.here hx rfl (pc0 := 274) (pc' := 278) rfl (hb hby at_274) (by decide) (by decide) ?_
                  show Steps p.tables e below (T20.setTop (mkF m 278 #[.val (.int p0), .val (.int p1), .val (.int p2), .val (.int p3), .val (.int p4), .val (.int (f1 p0)), .val (.int (f1 p1)), .val (.int (f1 p2)), .val (.int (f1 p3)), o9, .val (.int cc), .val (.int dd), .val (.ref b5), .val (.ref b7), .val (.int (1 : Int32)), .val (.int (1 : Int32)), .val (.ref r19_r)] [(.int (1 : Int32))])) t
                  refine XS.istore X20.here hx rfl (hb hby at_278) rfl (l' := #[.val (.int p0), .val (.int p1), .val (.int p2), .val (.int p3), .val (.int p4), .val (.int (f1 p0)), .val (.int (f1 p1)), .val (.int (f1 p2)), .val (.int (f1 p3)), o9, .val (.int cc), .val (.int dd), .val (.ref b5), .val (.ref b7), .val (.int (1 : Int32)), .val (.int (1 : Int32)), .val (.ref r19_r)]) rfl ?_
                  show Steps p.tables e below (T20.setTop (mkF m 280 #[.val (.int p0), .val (.int p1), .val (.int p2), .val (.int p3), .val (.int p4), .val (.int (f1 p0)), .val (.int (f1 p1)), .val (.int (f1 p2)), .val (.int (f1 p3)), o9, .val (.int cc), .val (.int dd), .val (.ref b5), .val (.ref b7), .val (.int (1 : Int32)), .val (.int (1 : Int32)), .val (.ref r19_r)] [])) t
                  refine XS.iload X20.here hx rfl (hb hby at_280) rfl ?_
                  exact kt
                refine OGo.retZ X20 hx hlk (t := .boolean) (z' := (1 : Int32)) hret (by simp) (hb hby at_282) rfl ?_ (by decide) (by decide)
                show Q0 Z p0 p1 p2 p3 p4 w_high w_cache h0 n0 _ T20.heap _
                rw [e20]
                exact ⟨rfl, N20, KC19⟩
              · refine OGo.step (F' := T8.setTop (mkF m 162 #[.val (.int p0), .val (.int p1), .val (.int p2), .val (.int p3), .val (.int p4), .val (.int (f1 p0)), .val (.int (f1 p1)), .val (.int (f1 p2)), .val (.int (f1 p3)), o9, .val (.int cc), .val (.int dd), .val (.ref b5), .val (.ref b7), .unset, .unset, .unset] [])) (fun t kt => ?_) ?_
                · show Steps p.tables e below (T8.setTop (mkF m 155 #[.val (.int p0), .val (.int p1), .val (.int p2), .val (.int p3), .val (.int p4), .val (.int (f1 p0)), .val (.int (f1 p1)), .val (.int (f1 p2)), .val (.int (f1 p3)), o9, .val (.int cc), .val (.int dd), .val (.ref b5), .val (.ref b7), .unset, .unset, .unset] [(.int cc), (.int (f1 p1))])) t
                  refine XS.icmpYes X8.here hx rfl (pc0 := 155) (pc' := 162) rfl (hb hby at_155) rfl (feq hc155).2 (by decide) (by decide) ?_
                  exact kt
                refine OGo.step (F' := T8.setTop (mkF m 169 #[.val (.int p0), .val (.int p1), .val (.int p2), .val (.int p3), .val (.int p4), .val (.int (f1 p0)), .val (.int (f1 p1)), .val (.int (f1 p2)), .val (.int (f1 p3)), o9, .val (.int cc), .val (.int dd), .val (.ref b5), .val (.ref b7), .val (.int (0 : Int32)), .unset, .unset] [(.ref b7), (.ref b5)])) (fun t kt => ?_) ?_
                · show Steps p.tables e below (T8.setTop (mkF m 162 #[.val (.int p0), .val (.int p1), .val (.int p2), .val (.int p3), .val (.int p4), .val (.int (f1 p0)), .val (.int (f1 p1)), .val (.int (f1 p2)), .val (.int (f1 p3)), o9, .val (.int cc), .val (.int dd), .val (.ref b5), .val (.ref b7), .unset, .unset, .unset] [])) t
                  refine XS.iconst X8.here hx rfl (hb hby at_162) ?_
                  show Steps p.tables e below (T8.setTop (mkF m 163 #[.val (.int p0), .val (.int p1), .val (.int p2), .val (.int p3), .val (.int p4), .val (.int (f1 p0)), .val (.int (f1 p1)), .val (.int (f1 p2)), .val (.int (f1 p3)), o9, .val (.int cc), .val (.int dd), .val (.ref b5), .val (.ref b7), .unset, .unset, .unset] [(.int (0 : Int32))])) t
                  refine XS.istore X8.here hx rfl (hb hby at_163) rfl (l' := #[.val (.int p0), .val (.int p1), .val (.int p2), .val (.int p3), .val (.int p4), .val (.int (f1 p0)), .val (.int (f1 p1)), .val (.int (f1 p2)), .val (.int (f1 p3)), o9, .val (.int cc), .val (.int dd), .val (.ref b5), .val (.ref b7), .val (.int (0 : Int32)), .unset, .unset]) rfl ?_
                  show Steps p.tables e below (T8.setTop (mkF m 165 #[.val (.int p0), .val (.int p1), .val (.int p2), .val (.int p3), .val (.int p4), .val (.int (f1 p0)), .val (.int (f1 p1)), .val (.int (f1 p2)), .val (.int (f1 p3)), o9, .val (.int cc), .val (.int dd), .val (.ref b5), .val (.ref b7), .val (.int (0 : Int32)), .unset, .unset] [])) t
                  refine XS.aload X8.here hx rfl (hb hby at_165) rfl rfl ?_
                  show Steps p.tables e below (T8.setTop (mkF m 167 #[.val (.int p0), .val (.int p1), .val (.int p2), .val (.int p3), .val (.int p4), .val (.int (f1 p0)), .val (.int (f1 p1)), .val (.int (f1 p2)), .val (.int (f1 p3)), o9, .val (.int cc), .val (.int dd), .val (.ref b5), .val (.ref b7), .val (.int (0 : Int32)), .unset, .unset] [(.ref b5)])) t
                  refine XS.aload X8.here hx rfl (hb hby at_167) rfl rfl ?_
                  exact kt
                refine OGo.callV X8 hx hZ (y := (⟨"com/example/harlow/harlow/core/topology/NodePair", "equals", "(Ljava/lang/Object;)Z"⟩ : MethodName)) (z := (⟨"com/example/harlow/harlow/core/topology/NodePair", "equals", "(Ljava/lang/Object;)Z"⟩ : MethodName)) hown (own_wd hw 26 rfl) (own_wd hw 27 rfl) (notFace_of_selects (args := #[]) (mvT hZ (own_wd hw 29 rfl))) (own_wd hw 29 rfl) (own_wd hw 28 rfl) (own_wd hw 11 rfl) (own_wd hw 30 rfl) (by decide) (rm6 l Z az hw [] b5 b7 (f5 cc dd) (f5 (f1 p0) (f1 p1)) (f2 cc dd) (f2 (f1 p0) (f1 p1)) T8.heap n0 (Nat.le_trans Z0 KC8.1) P8_0 P8_1 ((P6_1.ext E7).keep K8 (ninS (Nat.ne_of_lt (Nat.lt_of_lt_of_le P6_0.lt (Nat.le_of_eq g7.symm))) nin0)) P8_2 ((P6_2.ext E7).keep K8 (ninS (Nat.ne_of_lt (Nat.lt_of_lt_of_le P6_0.lt (Nat.le_of_eq g7.symm))) nin0))) (W := 0) (by decide) (by decide) ((P6_0.ext E7).keep K8) (g := (mkF m 169 #[.val (.int p0), .val (.int p1), .val (.int p2), .val (.int p3), .val (.int p4), .val (.int (f1 p0)), .val (.int (f1 p1)), .val (.int (f1 p2)), .val (.int (f1 p3)), o9, .val (.int cc), .val (.int dd), .val (.ref b5), .val (.ref b7), .val (.int (0 : Int32)), .unset, .unset] [(.ref b7), (.ref b5)])) rfl (by rw [hml]; rfl) (argsL := [(.ref b7)]) (rest := []) (lenOf pd_0_2 rfl) rfl (by show 2 * 0 + _ ≤ _; exact Nat.le_of_eq rfl) (hb hby at_169) rfl rfl (by decide) (by decide) ?_
                rintro _ T21 L21 X21 ⟨rfl, Nq21, e21⟩
                have N21 := Fr.app N8 Nq21
                show OGo _ _ _ _ _ _ _ (T21.setTop (mkF m 172 #[.val (.int p0), .val (.int p1), .val (.int p2), .val (.int p3), .val (.int p4), .val (.int (f1 p0)), .val (.int (f1 p1)), .val (.int (f1 p2)), .val (.int (f1 p3)), o9, .val (.int cc), .val (.int dd), .val (.ref b5), .val (.ref b7), .val (.int (0 : Int32)), .unset, .unset] [(.int (f6 (f5 cc dd) (f5 (f1 p0) (f1 p1)) (f2 cc dd) (f2 (f1 p0) (f1 p1))))]))
                refine OGo.step (F' := T21.setTop (mkF m 193 #[.val (.int p0), .val (.int p1), .val (.int p2), .val (.int p3), .val (.int p4), .val (.int (f1 p0)), .val (.int (f1 p1)), .val (.int (f1 p2)), .val (.int (f1 p3)), o9, .val (.int cc), .val (.int dd), .val (.ref b5), .val (.ref b7), .val (.int (0 : Int32)), .val (.int (1 : Int32)), .unset] [(.ref b5), (.ref b7)])) (fun t kt => ?_) ?_
                · show Steps p.tables e below (T21.setTop (mkF m 172 #[.val (.int p0), .val (.int p1), .val (.int p2), .val (.int p3), .val (.int p4), .val (.int (f1 p0)), .val (.int (f1 p1)), .val (.int (f1 p2)), .val (.int (f1 p3)), o9, .val (.int cc), .val (.int dd), .val (.ref b5), .val (.ref b7), .val (.int (0 : Int32)), .unset, .unset] [(.int (f6 (f5 cc dd) (f5 (f1 p0) (f1 p1)) (f2 cc dd) (f2 (f1 p0) (f1 p1))))])) t
                  refine XS.iload X21.here hx rfl (hb hby at_172) rfl ?_
                  show Steps p.tables e below (T21.setTop (mkF m 174 #[.val (.int p0), .val (.int p1), .val (.int p2), .val (.int p3), .val (.int p4), .val (.int (f1 p0)), .val (.int (f1 p1)), .val (.int (f1 p2)), .val (.int (f1 p3)), o9, .val (.int cc), .val (.int dd), .val (.ref b5), .val (.ref b7), .val (.int (0 : Int32)), .unset, .unset] [(.int (0 : Int32)), (.int (f6 (f5 cc dd) (f5 (f1 p0) (f1 p1)) (f2 cc dd) (f2 (f1 p0) (f1 p1))))])) t
                  refine XS.icmpNo X21.here hx rfl (hb hby at_174) rfl (teq (own_eq0 (fun q => q.elim (fun z => hc141 z.2) (fun z => hc155 z.2)))).2 ?_
                  show Steps p.tables e below (T21.setTop (mkF m 177 #[.val (.int p0), .val (.int p1), .val (.int p2), .val (.int p3), .val (.int p4), .val (.int (f1 p0)), .val (.int (f1 p1)), .val (.int (f1 p2)), .val (.int (f1 p3)), o9, .val (.int cc), .val (.int dd), .val (.ref b5), .val (.ref b7), .val (.int (0 : Int32)), .unset, .unset] [])) t
                  refine XS.iconst X21.here hx rfl (hb hby at_177) ?_
                  show Steps p.tables e below (T21.setTop (mkF m 178 #[.val (.int p0), .val (.int p1), .val (.int p2), .val (.int p3), .val (.int p4), .val (.int (f1 p0)), .val (.int (f1 p1)), .val (.int (f1 p2)), .val (.int (f1 p3)), o9, .val (.int cc), .val (.int dd), .val (.ref b5), .val (.ref b7), .val (.int (0 : Int32)), .unset, .unset] [(.int (1 : Int32))])) t
                  refine XS.goto X21.here hx rfl (pc0 := 178) (pc' := 182) rfl (hb hby at_178) (by decide) (by decide) ?_
                  show Steps p.tables e below (T21.setTop (mkF m 182 #[.val (.int p0), .val (.int p1), .val (.int p2), .val (.int p3), .val (.int p4), .val (.int (f1 p0)), .val (.int (f1 p1)), .val (.int (f1 p2)), .val (.int (f1 p3)), o9, .val (.int cc), .val (.int dd), .val (.ref b5), .val (.ref b7), .val (.int (0 : Int32)), .unset, .unset] [(.int (1 : Int32))])) t
                  refine XS.istore X21.here hx rfl (hb hby at_182) rfl (l' := #[.val (.int p0), .val (.int p1), .val (.int p2), .val (.int p3), .val (.int p4), .val (.int (f1 p0)), .val (.int (f1 p1)), .val (.int (f1 p2)), .val (.int (f1 p3)), o9, .val (.int cc), .val (.int dd), .val (.ref b5), .val (.ref b7), .val (.int (0 : Int32)), .val (.int (1 : Int32)), .unset]) rfl ?_
                  show Steps p.tables e below (T21.setTop (mkF m 184 #[.val (.int p0), .val (.int p1), .val (.int p2), .val (.int p3), .val (.int p4), .val (.int (f1 p0)), .val (.int (f1 p1)), .val (.int (f1 p2)), .val (.int (f1 p3)), o9, .val (.int cc), .val (.int dd), .val (.ref b5), .val (.ref b7), .val (.int (0 : Int32)), .val (.int (1 : Int32)), .unset] [])) t
                  refine XS.iload X21.here hx rfl (hb hby at_184) rfl ?_
                  show Steps p.tables e below (T21.setTop (mkF m 186 #[.val (.int p0), .val (.int p1), .val (.int p2), .val (.int p3), .val (.int p4), .val (.int (f1 p0)), .val (.int (f1 p1)), .val (.int (f1 p2)), .val (.int (f1 p3)), o9, .val (.int cc), .val (.int dd), .val (.ref b5), .val (.ref b7), .val (.int (0 : Int32)), .val (.int (1 : Int32)), .unset] [(.int (1 : Int32))])) t
                  refine XS.ifNo X21.here hx rfl (hb hby at_186) rfl ((if0 _ _).trans (feq (by decide : ¬ ((1 : Int32) = (0 : Int32)))).1) ?_
                  show Steps p.tables e below (T21.setTop (mkF m 189 #[.val (.int p0), .val (.int p1), .val (.int p2), .val (.int p3), .val (.int p4), .val (.int (f1 p0)), .val (.int (f1 p1)), .val (.int (f1 p2)), .val (.int (f1 p3)), o9, .val (.int cc), .val (.int dd), .val (.ref b5), .val (.ref b7), .val (.int (0 : Int32)), .val (.int (1 : Int32)), .unset] [])) t
                  refine XS.aload X21.here hx rfl (hb hby at_189) rfl rfl ?_
                  show Steps p.tables e below (T21.setTop (mkF m 191 #[.val (.int p0), .val (.int p1), .val (.int p2), .val (.int p3), .val (.int p4), .val (.int (f1 p0)), .val (.int (f1 p1)), .val (.int (f1 p2)), .val (.int (f1 p3)), o9, .val (.int cc), .val (.int dd), .val (.ref b5), .val (.ref b7), .val (.int (0 : Int32)), .val (.int (1 : Int32)), .unset] [(.ref b7)])) t
                  refine XS.aload X21.here hx rfl (hb hby at_191) rfl rfl ?_
                  exact kt
                refine OGo.callV X21 hx hZ (y := (⟨"com/example/harlow/harlow/core/topology/NodePair", "equals", "(Ljava/lang/Object;)Z"⟩ : MethodName)) (z := (⟨"com/example/harlow/harlow/core/topology/NodePair", "equals", "(Ljava/lang/Object;)Z"⟩ : MethodName)) hown (own_wd hw 26 rfl) (own_wd hw 27 rfl) (notFace_of_selects (args := #[]) (mvT hZ (own_wd hw 29 rfl))) (own_wd hw 29 rfl) (own_wd hw 28 rfl) (own_wd hw 11 rfl) (own_wd hw 30 rfl) (by decide) (rm6 l Z az hw [] b7 b5 (f5 (f1 p0) (f1 p1)) (f5 cc dd) (f2 (f1 p0) (f1 p1)) (f2 cc dd) T8.heap n0 (Nat.le_trans Z0 KC8.1) ((P6_0.ext E7).keep K8) ((P6_1.ext E7).keep K8 (ninS (Nat.ne_of_lt (Nat.lt_of_lt_of_le P6_0.lt (Nat.le_of_eq g7.symm))) nin0)) P8_1 ((P6_2.ext E7).keep K8 (ninS (Nat.ne_of_lt (Nat.lt_of_lt_of_le P6_0.lt (Nat.le_of_eq g7.symm))) nin0)) P8_2) (W := 0) (by decide) (by decide) P8_0 (g := (mkF m 193 #[.val (.int p0), .val (.int p1), .val (.int p2), .val (.int p3), .val (.int p4), .val (.int (f1 p0)), .val (.int (f1 p1)), .val (.int (f1 p2)), .val (.int (f1 p3)), o9, .val (.int cc), .val (.int dd), .val (.ref b5), .val (.ref b7), .val (.int (0 : Int32)), .val (.int (1 : Int32)), .unset] [(.ref b5), (.ref b7)])) rfl (by rw [hml]; rfl) (argsL := [(.ref b5)]) (rest := []) (lenOf pd_0_2 rfl) rfl (by show 2 * 0 + _ ≤ _; exact Nat.le_of_eq rfl) (hb hby at_193) rfl e21 (by decide) (by decide) ?_
                rintro _ T22 L22 X22 ⟨rfl, Nq22, e22⟩
                have N22 := Fr.app N21 Nq22
                show OGo _ _ _ _ _ _ _ (T22.setTop (mkF m 196 #[.val (.int p0), .val (.int p1), .val (.int p2), .val (.int p3), .val (.int p4), .val (.int (f1 p0)), .val (.int (f1 p1)), .val (.int (f1 p2)), .val (.int (f1 p3)), o9, .val (.int cc), .val (.int dd), .val (.ref b5), .val (.ref b7), .val (.int (0 : Int32)), .val (.int (1 : Int32)), .unset] [(.int (f6 (f5 (f1 p0) (f1 p1)) (f5 cc dd) (f2 (f1 p0) (f1 p1)) (f2 cc dd)))]))
                refine OGo.step (F' := T22.setTop (mkF m 217 #[.val (.int p0), .val (.int p1), .val (.int p2), .val (.int p3), .val (.int p4), .val (.int (f1 p0)), .val (.int (f1 p1)), .val (.int (f1 p2)), .val (.int (f1 p3)), o9, .val (.int cc), .val (.int dd), .val (.ref b5), .val (.ref b7), .val (.int (0 : Int32)), .val (.int (1 : Int32)), .unset] [(.ref b5), (.ref b5)])) (fun t kt => ?_) ?_
                · show Steps p.tables e below (T22.setTop (mkF m 196 #[.val (.int p0), .val (.int p1), .val (.int p2), .val (.int p3), .val (.int p4), .val (.int (f1 p0)), .val (.int (f1 p1)), .val (.int (f1 p2)), .val (.int (f1 p3)), o9, .val (.int cc), .val (.int dd), .val (.ref b5), .val (.ref b7), .val (.int (0 : Int32)), .val (.int (1 : Int32)), .unset] [(.int (f6 (f5 (f1 p0) (f1 p1)) (f5 cc dd) (f2 (f1 p0) (f1 p1)) (f2 cc dd)))])) t
                  refine XS.iload X22.here hx rfl (hb hby at_196) rfl ?_
                  show Steps p.tables e below (T22.setTop (mkF m 198 #[.val (.int p0), .val (.int p1), .val (.int p2), .val (.int p3), .val (.int p4), .val (.int (f1 p0)), .val (.int (f1 p1)), .val (.int (f1 p2)), .val (.int (f1 p3)), o9, .val (.int cc), .val (.int dd), .val (.ref b5), .val (.ref b7), .val (.int (0 : Int32)), .val (.int (1 : Int32)), .unset] [(.int (0 : Int32)), (.int (f6 (f5 (f1 p0) (f1 p1)) (f5 cc dd) (f2 (f1 p0) (f1 p1)) (f2 cc dd)))])) t
                  refine XS.icmpNo X22.here hx rfl (hb hby at_198) rfl (teq ((own_com _ _ _ _).trans (own_eq0 (fun q => q.elim (fun z => hc141 z.2) (fun z => hc155 z.2))))).2 ?_
                  show Steps p.tables e below (T22.setTop (mkF m 201 #[.val (.int p0), .val (.int p1), .val (.int p2), .val (.int p3), .val (.int p4), .val (.int (f1 p0)), .val (.int (f1 p1)), .val (.int (f1 p2)), .val (.int (f1 p3)), o9, .val (.int cc), .val (.int dd), .val (.ref b5), .val (.ref b7), .val (.int (0 : Int32)), .val (.int (1 : Int32)), .unset] [])) t
                  refine XS.iconst X22.here hx rfl (hb hby at_201) ?_
                  show Steps p.tables e below (T22.setTop (mkF m 202 #[.val (.int p0), .val (.int p1), .val (.int p2), .val (.int p3), .val (.int p4), .val (.int (f1 p0)), .val (.int (f1 p1)), .val (.int (f1 p2)), .val (.int (f1 p3)), o9, .val (.int cc), .val (.int dd), .val (.ref b5), .val (.ref b7), .val (.int (0 : Int32)), .val (.int (1 : Int32)), .unset] [(.int (1 : Int32))])) t
                  refine XS.goto X22.here hx rfl (pc0 := 202) (pc' := 206) rfl (hb hby at_202) (by decide) (by decide) ?_
                  show Steps p.tables e below (T22.setTop (mkF m 206 #[.val (.int p0), .val (.int p1), .val (.int p2), .val (.int p3), .val (.int p4), .val (.int (f1 p0)), .val (.int (f1 p1)), .val (.int (f1 p2)), .val (.int (f1 p3)), o9, .val (.int cc), .val (.int dd), .val (.ref b5), .val (.ref b7), .val (.int (0 : Int32)), .val (.int (1 : Int32)), .unset] [(.int (1 : Int32))])) t
                  refine XS.istore X22.here hx rfl (hb hby at_206) rfl (l' := #[.val (.int p0), .val (.int p1), .val (.int p2), .val (.int p3), .val (.int p4), .val (.int (f1 p0)), .val (.int (f1 p1)), .val (.int (f1 p2)), .val (.int (f1 p3)), o9, .val (.int cc), .val (.int dd), .val (.ref b5), .val (.ref b7), .val (.int (0 : Int32)), .val (.int (1 : Int32)), .unset]) rfl ?_
                  show Steps p.tables e below (T22.setTop (mkF m 208 #[.val (.int p0), .val (.int p1), .val (.int p2), .val (.int p3), .val (.int p4), .val (.int (f1 p0)), .val (.int (f1 p1)), .val (.int (f1 p2)), .val (.int (f1 p3)), o9, .val (.int cc), .val (.int dd), .val (.ref b5), .val (.ref b7), .val (.int (0 : Int32)), .val (.int (1 : Int32)), .unset] [])) t
                  refine XS.iload X22.here hx rfl (hb hby at_208) rfl ?_
                  show Steps p.tables e below (T22.setTop (mkF m 210 #[.val (.int p0), .val (.int p1), .val (.int p2), .val (.int p3), .val (.int p4), .val (.int (f1 p0)), .val (.int (f1 p1)), .val (.int (f1 p2)), .val (.int (f1 p3)), o9, .val (.int cc), .val (.int dd), .val (.ref b5), .val (.ref b7), .val (.int (0 : Int32)), .val (.int (1 : Int32)), .unset] [(.int (1 : Int32))])) t
                  refine XS.ifNo X22.here hx rfl (hb hby at_210) rfl ((if0 _ _).trans (feq (by decide : ¬ ((1 : Int32) = (0 : Int32)))).1) ?_
                  show Steps p.tables e below (T22.setTop (mkF m 213 #[.val (.int p0), .val (.int p1), .val (.int p2), .val (.int p3), .val (.int p4), .val (.int (f1 p0)), .val (.int (f1 p1)), .val (.int (f1 p2)), .val (.int (f1 p3)), o9, .val (.int cc), .val (.int dd), .val (.ref b5), .val (.ref b7), .val (.int (0 : Int32)), .val (.int (1 : Int32)), .unset] [])) t
                  refine XS.aload X22.here hx rfl (hb hby at_213) rfl rfl ?_
                  show Steps p.tables e below (T22.setTop (mkF m 215 #[.val (.int p0), .val (.int p1), .val (.int p2), .val (.int p3), .val (.int p4), .val (.int (f1 p0)), .val (.int (f1 p1)), .val (.int (f1 p2)), .val (.int (f1 p3)), o9, .val (.int cc), .val (.int dd), .val (.ref b5), .val (.ref b7), .val (.int (0 : Int32)), .val (.int (1 : Int32)), .unset] [(.ref b5)])) t
                  refine XS.aload X22.here hx rfl (hb hby at_215) rfl rfl ?_
                  exact kt
                refine OGo.callV X22 hx hZ (y := (⟨"com/example/harlow/harlow/core/topology/NodePair", "equals", "(Ljava/lang/Object;)Z"⟩ : MethodName)) (z := (⟨"com/example/harlow/harlow/core/topology/NodePair", "equals", "(Ljava/lang/Object;)Z"⟩ : MethodName)) hown (own_wd hw 26 rfl) (own_wd hw 27 rfl) (notFace_of_selects (args := #[]) (mvT hZ (own_wd hw 29 rfl))) (own_wd hw 29 rfl) (own_wd hw 28 rfl) (own_wd hw 11 rfl) (own_wd hw 30 rfl) (by decide) (rm6 l Z az hw [] b5 b5 (f5 (f1 p0) (f1 p1)) (f5 (f1 p0) (f1 p1)) (f2 (f1 p0) (f1 p1)) (f2 (f1 p0) (f1 p1)) T8.heap n0 (Nat.le_trans Z0 KC8.1) ((P6_0.ext E7).keep K8) ((P6_1.ext E7).keep K8 (ninS (Nat.ne_of_lt (Nat.lt_of_lt_of_le P6_0.lt (Nat.le_of_eq g7.symm))) nin0)) ((P6_1.ext E7).keep K8 (ninS (Nat.ne_of_lt (Nat.lt_of_lt_of_le P6_0.lt (Nat.le_of_eq g7.symm))) nin0)) ((P6_2.ext E7).keep K8 (ninS (Nat.ne_of_lt (Nat.lt_of_lt_of_le P6_0.lt (Nat.le_of_eq g7.symm))) nin0)) ((P6_2.ext E7).keep K8 (ninS (Nat.ne_of_lt (Nat.lt_of_lt_of_le P6_0.lt (Nat.le_of_eq g7.symm))) nin0))) (W := 0) (by decide) (by decide) ((P6_0.ext E7).keep K8) (g := (mkF m 217 #[.val (.int p0), .val (.int p1), .val (.int p2), .val (.int p3), .val (.int p4), .val (.int (f1 p0)), .val (.int (f1 p1)), .val (.int (f1 p2)), .val (.int (f1 p3)), o9, .val (.int cc), .val (.int dd), .val (.ref b5), .val (.ref b7), .val (.int (0 : Int32)), .val (.int (1 : Int32)), .unset] [(.ref b5), (.ref b5)])) rfl (by rw [hml]; rfl) (argsL := [(.ref b5)]) (rest := []) (lenOf pd_0_2 rfl) rfl (by show 2 * 0 + _ ≤ _; exact Nat.le_of_eq rfl) (hb hby at_217) rfl e22 (by decide) (by decide) ?_
                rintro _ T23 L23 X23 ⟨rfl, Nq23, e23⟩
                have N23 := Fr.app N22 Nq23
                show OGo _ _ _ _ _ _ _ (T23.setTop (mkF m 220 #[.val (.int p0), .val (.int p1), .val (.int p2), .val (.int p3), .val (.int p4), .val (.int (f1 p0)), .val (.int (f1 p1)), .val (.int (f1 p2)), .val (.int (f1 p3)), o9, .val (.int cc), .val (.int dd), .val (.ref b5), .val (.ref b7), .val (.int (0 : Int32)), .val (.int (1 : Int32)), .unset] [(.int (f6 (f5 (f1 p0) (f1 p1)) (f5 (f1 p0) (f1 p1)) (f2 (f1 p0) (f1 p1)) (f2 (f1 p0) (f1 p1))))]))
                refine OGo.step (F' := T23.setTop (mkF m 238 #[.val (.int p0), .val (.int p1), .val (.int p2), .val (.int p3), .val (.int p4), .val (.int (f1 p0)), .val (.int (f1 p1)), .val (.int (f1 p2)), .val (.int (f1 p3)), o9, .val (.int cc), .val (.int dd), .val (.ref b5), .val (.ref b7), .val (.int (0 : Int32)), .val (.int (1 : Int32)), .unset] [.null, (.ref b5)])) (fun t kt => ?_) ?_
                · show Steps p.tables e below (T23.setTop (mkF m 220 #[.val (.int p0), .val (.int p1), .val (.int p2), .val (.int p3), .val (.int p4), .val (.int (f1 p0)), .val (.int (f1 p1)), .val (.int (f1 p2)), .val (.int (f1 p3)), o9, .val (.int cc), .val (.int dd), .val (.ref b5), .val (.ref b7), .val (.int (0 : Int32)), .val (.int (1 : Int32)), .unset] [(.int (f6 (f5 (f1 p0) (f1 p1)) (f5 (f1 p0) (f1 p1)) (f2 (f1 p0) (f1 p1)) (f2 (f1 p0) (f1 p1))))])) t
                  refine XS.ifNo X23.here hx rfl (hb hby at_220) rfl ((if0 _ _).trans (feq (own_refl _ _)).1) ?_
                  show Steps p.tables e below (T23.setTop (mkF m 223 #[.val (.int p0), .val (.int p1), .val (.int p2), .val (.int p3), .val (.int p4), .val (.int (f1 p0)), .val (.int (f1 p1)), .val (.int (f1 p2)), .val (.int (f1 p3)), o9, .val (.int cc), .val (.int dd), .val (.ref b5), .val (.ref b7), .val (.int (0 : Int32)), .val (.int (1 : Int32)), .unset] [])) t
                  refine XS.iconst X23.here hx rfl (hb hby at_223) ?_
                  show Steps p.tables e below (T23.setTop (mkF m 224 #[.val (.int p0), .val (.int p1), .val (.int p2), .val (.int p3), .val (.int p4), .val (.int (f1 p0)), .val (.int (f1 p1)), .val (.int (f1 p2)), .val (.int (f1 p3)), o9, .val (.int cc), .val (.int dd), .val (.ref b5), .val (.ref b7), .val (.int (0 : Int32)), .val (.int (1 : Int32)), .unset] [(.int (1 : Int32))])) t
                  refine XS.goto X23.here hx rfl (pc0 := 224) (pc' := 228) rfl (hb hby at_224) (by decide) (by decide) ?_
                  show Steps p.tables e below (T23.setTop (mkF m 228 #[.val (.int p0), .val (.int p1), .val (.int p2), .val (.int p3), .val (.int p4), .val (.int (f1 p0)), .val (.int (f1 p1)), .val (.int (f1 p2)), .val (.int (f1 p3)), o9, .val (.int cc), .val (.int dd), .val (.ref b5), .val (.ref b7), .val (.int (0 : Int32)), .val (.int (1 : Int32)), .unset] [(.int (1 : Int32))])) t
                  refine XS.istore X23.here hx rfl (hb hby at_228) rfl (l' := #[.val (.int p0), .val (.int p1), .val (.int p2), .val (.int p3), .val (.int p4), .val (.int (f1 p0)), .val (.int (f1 p1)), .val (.int (f1 p2)), .val (.int (f1 p3)), o9, .val (.int cc), .val (.int dd), .val (.ref b5), .val (.ref b7), .val (.int (0 : Int32)), .val (.int (1 : Int32)), .unset]) rfl ?_
                  show Steps p.tables e below (T23.setTop (mkF m 230 #[.val (.int p0), .val (.int p1), .val (.int p2), .val (.int p3), .val (.int p4), .val (.int (f1 p0)), .val (.int (f1 p1)), .val (.int (f1 p2)), .val (.int (f1 p3)), o9, .val (.int cc), .val (.int dd), .val (.ref b5), .val (.ref b7), .val (.int (0 : Int32)), .val (.int (1 : Int32)), .unset] [])) t
                  refine XS.iload X23.here hx rfl (hb hby at_230) rfl ?_
                  show Steps p.tables e below (T23.setTop (mkF m 232 #[.val (.int p0), .val (.int p1), .val (.int p2), .val (.int p3), .val (.int p4), .val (.int (f1 p0)), .val (.int (f1 p1)), .val (.int (f1 p2)), .val (.int (f1 p3)), o9, .val (.int cc), .val (.int dd), .val (.ref b5), .val (.ref b7), .val (.int (0 : Int32)), .val (.int (1 : Int32)), .unset] [(.int (1 : Int32))])) t
                  refine XS.ifNo X23.here hx rfl (hb hby at_232) rfl ((if0 _ _).trans (feq (by decide : ¬ ((1 : Int32) = (0 : Int32)))).1) ?_
                  show Steps p.tables e below (T23.setTop (mkF m 235 #[.val (.int p0), .val (.int p1), .val (.int p2), .val (.int p3), .val (.int p4), .val (.int (f1 p0)), .val (.int (f1 p1)), .val (.int (f1 p2)), .val (.int (f1 p3)), o9, .val (.int cc), .val (.int dd), .val (.ref b5), .val (.ref b7), .val (.int (0 : Int32)), .val (.int (1 : Int32)), .unset] [])) t
                  refine XS.aload X23.here hx rfl (hb hby at_235) rfl rfl ?_
                  show Steps p.tables e below (T23.setTop (mkF m 237 #[.val (.int p0), .val (.int p1), .val (.int p2), .val (.int p3), .val (.int p4), .val (.int (f1 p0)), .val (.int (f1 p1)), .val (.int (f1 p2)), .val (.int (f1 p3)), o9, .val (.int cc), .val (.int dd), .val (.ref b5), .val (.ref b7), .val (.int (0 : Int32)), .val (.int (1 : Int32)), .unset] [(.ref b5)])) t
                  refine XS.aconstNull X23.here hx rfl (hb hby at_237) ?_
                  exact kt
                refine OGo.callV X23 hx hZ (y := (⟨"com/example/harlow/harlow/core/topology/NodePair", "equals", "(Ljava/lang/Object;)Z"⟩ : MethodName)) (z := (⟨"com/example/harlow/harlow/core/topology/NodePair", "equals", "(Ljava/lang/Object;)Z"⟩ : MethodName)) hown (own_wd hw 26 rfl) (own_wd hw 27 rfl) (notFace_of_selects (args := #[]) (mvT hZ (own_wd hw 29 rfl))) (own_wd hw 29 rfl) (own_wd hw 28 rfl) (own_wd hw 11 rfl) (own_wd hw 30 rfl) (by decide) (rm6z l Z az hw [] b5 T8.heap n0 (Nat.le_trans Z0 KC8.1)) (W := 0) (by decide) (by decide) ((P6_0.ext E7).keep K8) (g := (mkF m 238 #[.val (.int p0), .val (.int p1), .val (.int p2), .val (.int p3), .val (.int p4), .val (.int (f1 p0)), .val (.int (f1 p1)), .val (.int (f1 p2)), .val (.int (f1 p3)), o9, .val (.int cc), .val (.int dd), .val (.ref b5), .val (.ref b7), .val (.int (0 : Int32)), .val (.int (1 : Int32)), .unset] [.null, (.ref b5)])) rfl (by rw [hml]; rfl) (argsL := [.null]) (rest := []) (lenOf pd_0_2 rfl) rfl (by show 2 * 0 + _ ≤ _; exact Nat.le_of_eq rfl) (hb hby at_238) rfl e23 (by decide) (by decide) ?_
                rintro _ T24 L24 X24 ⟨hv24, Nq24, e24⟩
                have N24 := Fr.app N23 Nq24
                rw [show f6z = (0 : Int32) from rfl] at hv24
                subst hv24
                show OGo _ _ _ _ _ _ _ (T24.setTop (mkF m 241 #[.val (.int p0), .val (.int p1), .val (.int p2), .val (.int p3), .val (.int p4), .val (.int (f1 p0)), .val (.int (f1 p1)), .val (.int (f1 p2)), .val (.int (f1 p3)), o9, .val (.int cc), .val (.int dd), .val (.ref b5), .val (.ref b7), .val (.int (0 : Int32)), .val (.int (1 : Int32)), .unset] [(.int (0 : Int32))]))
                refine OGo.step (F' := T24.setTop (mkF m 253 #[.val (.int p0), .val (.int p1), .val (.int p2), .val (.int p3), .val (.int p4), .val (.int (f1 p0)), .val (.int (f1 p1)), .val (.int (f1 p2)), .val (.int (f1 p3)), o9, .val (.int cc), .val (.int dd), .val (.ref b5), .val (.ref b7), .val (.int (0 : Int32)), .val (.int (1 : Int32)), .unset] [(.int (f1 p0))])) (fun t kt => ?_) ?_
                · show Steps p.tables e below (T24.setTop (mkF m 241 #[.val (.int p0), .val (.int p1), .val (.int p2), .val (.int p3), .val (.int p4), .val (.int (f1 p0)), .val (.int (f1 p1)), .val (.int (f1 p2)), .val (.int (f1 p3)), o9, .val (.int cc), .val (.int dd), .val (.ref b5), .val (.ref b7), .val (.int (0 : Int32)), .val (.int (1 : Int32)), .unset] [(.int (0 : Int32))])) t
                  refine XS.ifNo X24.here hx rfl (hb hby at_241) rfl ((if0 _ _).trans (teq (by decide : (0 : Int32) = (0 : Int32))).2) ?_
                  show Steps p.tables e below (T24.setTop (mkF m 244 #[.val (.int p0), .val (.int p1), .val (.int p2), .val (.int p3), .val (.int p4), .val (.int (f1 p0)), .val (.int (f1 p1)), .val (.int (f1 p2)), .val (.int (f1 p3)), o9, .val (.int cc), .val (.int dd), .val (.ref b5), .val (.ref b7), .val (.int (0 : Int32)), .val (.int (1 : Int32)), .unset] [])) t
                  refine XS.iconst X24.here hx rfl (hb hby at_244) ?_
                  show Steps p.tables e below (T24.setTop (mkF m 245 #[.val (.int p0), .val (.int p1), .val (.int p2), .val (.int p3), .val (.int p4), .val (.int (f1 p0)), .val (.int (f1 p1)), .val (.int (f1 p2)), .val (.int (f1 p3)), o9, .val (.int cc), .val (.int dd), .val (.ref b5), .val (.ref b7), .val (.int (0 : Int32)), .val (.int (1 : Int32)), .unset] [(.int (1 : Int32))])) t
                  refine XS.goto X24.here hx rfl (pc0 := 245) (pc' := 249) rfl (hb hby at_245) (by decide) (by decide) ?_
                  show Steps p.tables e below (T24.setTop (mkF m 249 #[.val (.int p0), .val (.int p1), .val (.int p2), .val (.int p3), .val (.int p4), .val (.int (f1 p0)), .val (.int (f1 p1)), .val (.int (f1 p2)), .val (.int (f1 p3)), o9, .val (.int cc), .val (.int dd), .val (.ref b5), .val (.ref b7), .val (.int (0 : Int32)), .val (.int (1 : Int32)), .unset] [(.int (1 : Int32))])) t
                  refine XS.istore X24.here hx rfl (hb hby at_249) rfl (l' := #[.val (.int p0), .val (.int p1), .val (.int p2), .val (.int p3), .val (.int p4), .val (.int (f1 p0)), .val (.int (f1 p1)), .val (.int (f1 p2)), .val (.int (f1 p3)), o9, .val (.int cc), .val (.int dd), .val (.ref b5), .val (.ref b7), .val (.int (0 : Int32)), .val (.int (1 : Int32)), .unset]) rfl ?_
                  show Steps p.tables e below (T24.setTop (mkF m 251 #[.val (.int p0), .val (.int p1), .val (.int p2), .val (.int p3), .val (.int p4), .val (.int (f1 p0)), .val (.int (f1 p1)), .val (.int (f1 p2)), .val (.int (f1 p3)), o9, .val (.int cc), .val (.int dd), .val (.ref b5), .val (.ref b7), .val (.int (0 : Int32)), .val (.int (1 : Int32)), .unset] [])) t
                  refine XS.iload X24.here hx rfl (hb hby at_251) rfl ?_
                  exact kt
                refine OGo.callS X24 hx hZ (y := (⟨"java/lang/Integer", "valueOf", "(I)Ljava/lang/Integer;"⟩ : MethodName)) hown (own_wd hw 33 rfl) (own_wd hw 34 rfl) (own_wd hw 35 rfl) (own_wd hw 36 rfl) (by decide) (rm7 l Z az hw [] (f1 p0) w_high w_cache T8.heap n0 (Nat.le_trans Z0 KC8.1) (own_stakeep ((own_stakeep (S_high.ext E5) K6 (allS (own_obj A5) all0)).ext E7) K8 (allS (own_obj A7) all0)) (own_stakeep ((own_stakeep (S_cache.ext E5) K6 (allS (own_obj A5) all0)).ext E7) K8 (allS (own_obj A7) all0)) hHi ((((Ca.ext E5).keep K6 (ninS (Nat.ne_of_lt (Nat.lt_of_lt_of_le Ca.lt (Nat.le_of_eq g5.symm))) nin0)).ext E7).keep K8 (ninS (Nat.ne_of_lt (Nat.lt_of_lt_of_le ((Ca.ext E5).keep K6 (ninS (Nat.ne_of_lt (Nat.lt_of_lt_of_le Ca.lt (Nat.le_of_eq g5.symm))) nin0)).lt (Nat.le_of_eq g7.symm))) nin0))) (W := 0) (by decide) (by decide) (g := (mkF m 253 #[.val (.int p0), .val (.int p1), .val (.int p2), .val (.int p3), .val (.int p4), .val (.int (f1 p0)), .val (.int (f1 p1)), .val (.int (f1 p2)), .val (.int (f1 p3)), o9, .val (.int cc), .val (.int dd), .val (.ref b5), .val (.ref b7), .val (.int (0 : Int32)), .val (.int (1 : Int32)), .unset] [(.int (f1 p0))])) rfl (by rw [hml]; rfl) (argsL := [(.int (f1 p0))]) (rest := []) (lenOf pd_0_3 rfl) rfl (by show 2 * 0 + _ ≤ _; exact Nat.le_of_eq rfl) (hb hby at_253) rfl e24 (by decide) (by decide) ?_
                rintro _ T25 L25 X25 ⟨r25_r, rfl, Nq25, K25, P25_0⟩
                have KC25 : Keep h0 T25.heap [] := KC8.trans K25 all0
                have N25 := Fr.app N24 Nq25
                show OGo _ _ _ _ _ _ _ (T25.setTop (mkF m 256 #[.val (.int p0), .val (.int p1), .val (.int p2), .val (.int p3), .val (.int p4), .val (.int (f1 p0)), .val (.int (f1 p1)), .val (.int (f1 p2)), .val (.int (f1 p3)), o9, .val (.int cc), .val (.int dd), .val (.ref b5), .val (.ref b7), .val (.int (0 : Int32)), .val (.int (1 : Int32)), .unset] [(.ref r25_r)]))
                refine OGo.step (F' := T25.setTop (mkF m 267 #[.val (.int p0), .val (.int p1), .val (.int p2), .val (.int p3), .val (.int p4), .val (.int (f1 p0)), .val (.int (f1 p1)), .val (.int (f1 p2)), .val (.int (f1 p3)), o9, .val (.int cc), .val (.int dd), .val (.ref b5), .val (.ref b7), .val (.int (0 : Int32)), .val (.int (1 : Int32)), .val (.ref r25_r)] [(.ref r25_r), (.ref b5)])) (fun t kt => ?_) ?_
                · show Steps p.tables e below (T25.setTop (mkF m 256 #[.val (.int p0), .val (.int p1), .val (.int p2), .val (.int p3), .val (.int p4), .val (.int (f1 p0)), .val (.int (f1 p1)), .val (.int (f1 p2)), .val (.int (f1 p3)), o9, .val (.int cc), .val (.int dd), .val (.ref b5), .val (.ref b7), .val (.int (0 : Int32)), .val (.int (1 : Int32)), .unset] [(.ref r25_r)])) t
                  refine XS.astore X25.here hx rfl (hb hby at_256) rfl rfl (l' := #[.val (.int p0), .val (.int p1), .val (.int p2), .val (.int p3), .val (.int p4), .val (.int (f1 p0)), .val (.int (f1 p1)), .val (.int (f1 p2)), .val (.int (f1 p3)), o9, .val (.int cc), .val (.int dd), .val (.ref b5), .val (.ref b7), .val (.int (0 : Int32)), .val (.int (1 : Int32)), .val (.ref r25_r)]) rfl ?_
                  show Steps p.tables e below (T25.setTop (mkF m 258 #[.val (.int p0), .val (.int p1), .val (.int p2), .val (.int p3), .val (.int p4), .val (.int (f1 p0)), .val (.int (f1 p1)), .val (.int (f1 p2)), .val (.int (f1 p3)), o9, .val (.int cc), .val (.int dd), .val (.ref b5), .val (.ref b7), .val (.int (0 : Int32)), .val (.int (1 : Int32)), .val (.ref r25_r)] [])) t
                  refine XS.iload X25.here hx rfl (hb hby at_258) rfl ?_
                  show Steps p.tables e below (T25.setTop (mkF m 260 #[.val (.int p0), .val (.int p1), .val (.int p2), .val (.int p3), .val (.int p4), .val (.int (f1 p0)), .val (.int (f1 p1)), .val (.int (f1 p2)), .val (.int (f1 p3)), o9, .val (.int cc), .val (.int dd), .val (.ref b5), .val (.ref b7), .val (.int (0 : Int32)), .val (.int (1 : Int32)), .val (.ref r25_r)] [(.int (1 : Int32))])) t
                  refine XS.ifNo X25.here hx rfl (hb hby at_260) rfl ((if0 _ _).trans (feq (by decide : ¬ ((1 : Int32) = (0 : Int32)))).1) ?_
                  show Steps p.tables e below (T25.setTop (mkF m 263 #[.val (.int p0), .val (.int p1), .val (.int p2), .val (.int p3), .val (.int p4), .val (.int (f1 p0)), .val (.int (f1 p1)), .val (.int (f1 p2)), .val (.int (f1 p3)), o9, .val (.int cc), .val (.int dd), .val (.ref b5), .val (.ref b7), .val (.int (0 : Int32)), .val (.int (1 : Int32)), .val (.ref r25_r)] [])) t
                  refine XS.aload X25.here hx rfl (hb hby at_263) rfl rfl ?_
                  show Steps p.tables e below (T25.setTop (mkF m 265 #[.val (.int p0), .val (.int p1), .val (.int p2), .val (.int p3), .val (.int p4), .val (.int (f1 p0)), .val (.int (f1 p1)), .val (.int (f1 p2)), .val (.int (f1 p3)), o9, .val (.int cc), .val (.int dd), .val (.ref b5), .val (.ref b7), .val (.int (0 : Int32)), .val (.int (1 : Int32)), .val (.ref r25_r)] [(.ref b5)])) t
                  refine XS.aload X25.here hx rfl (hb hby at_265) rfl rfl ?_
                  exact kt
                refine OGo.callV X25 hx hZ (y := (⟨"com/example/harlow/harlow/core/topology/NodePair", "equals", "(Ljava/lang/Object;)Z"⟩ : MethodName)) (z := (⟨"com/example/harlow/harlow/core/topology/NodePair", "equals", "(Ljava/lang/Object;)Z"⟩ : MethodName)) hown (own_wd hw 26 rfl) (own_wd hw 27 rfl) (notFace_of_selects (args := #[]) (mvT hZ (own_wd hw 29 rfl))) (own_wd hw 29 rfl) (own_wd hw 28 rfl) (own_wd hw 11 rfl) (own_wd hw 30 rfl) (by decide) (rm6n l Z az hw [] b5 r25_r T25.heap n0 (Nat.le_trans Z0 KC25.1) P25_0) (W := 0) (by decide) (by decide) (((P6_0.ext E7).keep K8).keep K25) (g := (mkF m 267 #[.val (.int p0), .val (.int p1), .val (.int p2), .val (.int p3), .val (.int p4), .val (.int (f1 p0)), .val (.int (f1 p1)), .val (.int (f1 p2)), .val (.int (f1 p3)), o9, .val (.int cc), .val (.int dd), .val (.ref b5), .val (.ref b7), .val (.int (0 : Int32)), .val (.int (1 : Int32)), .val (.ref r25_r)] [(.ref r25_r), (.ref b5)])) rfl (by rw [hml]; rfl) (argsL := [(.ref r25_r)]) (rest := []) (lenOf pd_0_2 rfl) rfl (by show 2 * 0 + _ ≤ _; exact Nat.le_of_eq rfl) (hb hby at_267) rfl rfl (by decide) (by decide) ?_
                rintro _ T26 L26 X26 ⟨hv26, Nq26, e26⟩
                have N26 := Fr.app N25 Nq26
                rw [show f6n = (0 : Int32) from rfl] at hv26
                subst hv26
                show OGo _ _ _ _ _ _ _ (T26.setTop (mkF m 270 #[.val (.int p0), .val (.int p1), .val (.int p2), .val (.int p3), .val (.int p4), .val (.int (f1 p0)), .val (.int (f1 p1)), .val (.int (f1 p2)), .val (.int (f1 p3)), o9, .val (.int cc), .val (.int dd), .val (.ref b5), .val (.ref b7), .val (.int (0 : Int32)), .val (.int (1 : Int32)), .val (.ref r25_r)] [(.int (0 : Int32))]))
                refine OGo.step (F' := T26.setTop (mkF m 282 #[.val (.int p0), .val (.int p1), .val (.int p2), .val (.int p3), .val (.int p4), .val (.int (f1 p0)), .val (.int (f1 p1)), .val (.int (f1 p2)), .val (.int (f1 p3)), o9, .val (.int cc), .val (.int dd), .val (.ref b5), .val (.ref b7), .val (.int (0 : Int32)), .val (.int (1 : Int32)), .val (.ref r25_r)] [(.int (1 : Int32))])) (fun t kt => ?_) ?_
                · show Steps p.tables e below (T26.setTop (mkF m 270 #[.val (.int p0), .val (.int p1), .val (.int p2), .val (.int p3), .val (.int p4), .val (.int (f1 p0)), .val (.int (f1 p1)), .val (.int (f1 p2)), .val (.int (f1 p3)), o9, .val (.int cc), .val (.int dd), .val (.ref b5), .val (.ref b7), .val (.int (0 : Int32)), .val (.int (1 : Int32)), .val (.ref r25_r)] [(.int (0 : Int32))])) t
                  refine XS.ifNo X26.here hx rfl (hb hby at_270) rfl ((if0 _ _).trans (teq (by decide : (0 : Int32) = (0 : Int32))).2) ?_
                  show Steps p.tables e below (T26.setTop (mkF m 273 #[.val (.int p0), .val (.int p1), .val (.int p2), .val (.int p3), .val (.int p4), .val (.int (f1 p0)), .val (.int (f1 p1)), .val (.int (f1 p2)), .val (.int (f1 p3)), o9, .val (.int cc), .val (.int dd), .val (.ref b5), .val (.ref b7), .val (.int (0 : Int32)), .val (.int (1 : Int32)), .val (.ref r25_r)] [])) t
                  refine XS.iconst X26.here hx rfl (hb hby at_273) ?_
                  show Steps p.tables e below (T26.setTop (mkF m 274 #[.val (.int p0), .val (.int p1), .val (.int p2), .val (.int p3), .val (.int p4), .val (.int (f1 p0)), .val (.int (f1 p1)), .val (.int (f1 p2)), .val (.int (f1 p3)), o9, .val (.int cc), .val (.int dd), .val (.ref b5), .val (.ref b7), .val (.int (0 : Int32)), .val (.int (1 : Int32)), .val (.ref r25_r)] [(.int (1 : Int32))])) t
                  refine XS.goto X26.here hx rfl (pc0 := 274) (pc' := 278) rfl (hb hby at_274) (by decide) (by decide) ?_
                  show Steps p.tables e below (T26.setTop (mkF m 278 #[.val (.int p0), .val (.int p1), .val (.int p2), .val (.int p3), .val (.int p4), .val (.int (f1 p0)), .val (.int (f1 p1)), .val (.int (f1 p2)), .val (.int (f1 p3)), o9, .val (.int cc), .val (.int dd), .val (.ref b5), .val (.ref b7), .val (.int (0 : Int32)), .val (.int (1 : Int32)), .val (.ref r25_r)] [(.int (1 : Int32))])) t
                  refine XS.istore X26.here hx rfl (hb hby at_278) rfl (l' := #[.val (.int p0), .val (.int p1), .val (.int p2), .val (.int p3), .val (.int p4), .val (.int (f1 p0)), .val (.int (f1 p1)), .val (.int (f1 p2)), .val (.int (f1 p3)), o9, .val (.int cc), .val (.int dd), .val (.ref b5), .val (.ref b7), .val (.int (0 : Int32)), .val (.int (1 : Int32)), .val (.ref r25_r)]) rfl ?_
                  show Steps p.tables e below (T26.setTop (mkF m 280 #[.val (.int p0), .val (.int p1), .val (.int p2), .val (.int p3), .val (.int p4), .val (.int (f1 p0)), .val (.int (f1 p1)), .val (.int (f1 p2)), .val (.int (f1 p3)), o9, .val (.int cc), .val (.int dd), .val (.ref b5), .val (.ref b7), .val (.int (0 : Int32)), .val (.int (1 : Int32)), .val (.ref r25_r)] [])) t
                  refine XS.iload X26.here hx rfl (hb hby at_280) rfl ?_
                  exact kt
                refine OGo.retZ X26 hx hlk (t := .boolean) (z' := (1 : Int32)) hret (by simp) (hb hby at_282) rfl ?_ (by decide) (by decide)
                show Q0 Z p0 p1 p2 p3 p4 w_high w_cache h0 n0 _ T26.heap _
                rw [e26]
                exact ⟨rfl, N26, KC25⟩
            · refine OGo.step (F' := T8.setTop (mkF m 162 #[.val (.int p0), .val (.int p1), .val (.int p2), .val (.int p3), .val (.int p4), .val (.int (f1 p0)), .val (.int (f1 p1)), .val (.int (f1 p2)), .val (.int (f1 p3)), o9, .val (.int cc), .val (.int dd), .val (.ref b5), .val (.ref b7), .unset, .unset, .unset] [])) (fun t kt => ?_) ?_
              · show Steps p.tables e below (T8.setTop (mkF m 148 #[.val (.int p0), .val (.int p1), .val (.int p2), .val (.int p3), .val (.int p4), .val (.int (f1 p0)), .val (.int (f1 p1)), .val (.int (f1 p2)), .val (.int (f1 p3)), o9, .val (.int cc), .val (.int dd), .val (.ref b5), .val (.ref b7), .unset, .unset, .unset] [(.int dd), (.int (f1 p0))])) t
                refine XS.icmpYes X8.here hx rfl (pc0 := 148) (pc' := 162) rfl (hb hby at_148) rfl (feq hc148).2 (by decide) (by decide) ?_
                exact kt
              refine OGo.step (F' := T8.setTop (mkF m 169 #[.val (.int p0), .val (.int p1), .val (.int p2), .val (.int p3), .val (.int p4), .val (.int (f1 p0)), .val (.int (f1 p1)), .val (.int (f1 p2)), .val (.int (f1 p3)), o9, .val (.int cc), .val (.int dd), .val (.ref b5), .val (.ref b7), .val (.int (0 : Int32)), .unset, .unset] [(.ref b7), (.ref b5)])) (fun t kt => ?_) ?_
              · show Steps p.tables e below (T8.setTop (mkF m 162 #[.val (.int p0), .val (.int p1), .val (.int p2), .val (.int p3), .val (.int p4), .val (.int (f1 p0)), .val (.int (f1 p1)), .val (.int (f1 p2)), .val (.int (f1 p3)), o9, .val (.int cc), .val (.int dd), .val (.ref b5), .val (.ref b7), .unset, .unset, .unset] [])) t
                refine XS.iconst X8.here hx rfl (hb hby at_162) ?_
                show Steps p.tables e below (T8.setTop (mkF m 163 #[.val (.int p0), .val (.int p1), .val (.int p2), .val (.int p3), .val (.int p4), .val (.int (f1 p0)), .val (.int (f1 p1)), .val (.int (f1 p2)), .val (.int (f1 p3)), o9, .val (.int cc), .val (.int dd), .val (.ref b5), .val (.ref b7), .unset, .unset, .unset] [(.int (0 : Int32))])) t
                refine XS.istore X8.here hx rfl (hb hby at_163) rfl (l' := #[.val (.int p0), .val (.int p1), .val (.int p2), .val (.int p3), .val (.int p4), .val (.int (f1 p0)), .val (.int (f1 p1)), .val (.int (f1 p2)), .val (.int (f1 p3)), o9, .val (.int cc), .val (.int dd), .val (.ref b5), .val (.ref b7), .val (.int (0 : Int32)), .unset, .unset]) rfl ?_
                show Steps p.tables e below (T8.setTop (mkF m 165 #[.val (.int p0), .val (.int p1), .val (.int p2), .val (.int p3), .val (.int p4), .val (.int (f1 p0)), .val (.int (f1 p1)), .val (.int (f1 p2)), .val (.int (f1 p3)), o9, .val (.int cc), .val (.int dd), .val (.ref b5), .val (.ref b7), .val (.int (0 : Int32)), .unset, .unset] [])) t
                refine XS.aload X8.here hx rfl (hb hby at_165) rfl rfl ?_
                show Steps p.tables e below (T8.setTop (mkF m 167 #[.val (.int p0), .val (.int p1), .val (.int p2), .val (.int p3), .val (.int p4), .val (.int (f1 p0)), .val (.int (f1 p1)), .val (.int (f1 p2)), .val (.int (f1 p3)), o9, .val (.int cc), .val (.int dd), .val (.ref b5), .val (.ref b7), .val (.int (0 : Int32)), .unset, .unset] [(.ref b5)])) t
                refine XS.aload X8.here hx rfl (hb hby at_167) rfl rfl ?_
                exact kt
              refine OGo.callV X8 hx hZ (y := (⟨"com/example/harlow/harlow/core/topology/NodePair", "equals", "(Ljava/lang/Object;)Z"⟩ : MethodName)) (z := (⟨"com/example/harlow/harlow/core/topology/NodePair", "equals", "(Ljava/lang/Object;)Z"⟩ : MethodName)) hown (own_wd hw 26 rfl) (own_wd hw 27 rfl) (notFace_of_selects (args := #[]) (mvT hZ (own_wd hw 29 rfl))) (own_wd hw 29 rfl) (own_wd hw 28 rfl) (own_wd hw 11 rfl) (own_wd hw 30 rfl) (by decide) (rm6 l Z az hw [] b5 b7 (f5 cc dd) (f5 (f1 p0) (f1 p1)) (f2 cc dd) (f2 (f1 p0) (f1 p1)) T8.heap n0 (Nat.le_trans Z0 KC8.1) P8_0 P8_1 ((P6_1.ext E7).keep K8 (ninS (Nat.ne_of_lt (Nat.lt_of_lt_of_le P6_0.lt (Nat.le_of_eq g7.symm))) nin0)) P8_2 ((P6_2.ext E7).keep K8 (ninS (Nat.ne_of_lt (Nat.lt_of_lt_of_le P6_0.lt (Nat.le_of_eq g7.symm))) nin0))) (W := 0) (by decide) (by decide) ((P6_0.ext E7).keep K8) (g := (mkF m 169 #[.val (.int p0), .val (.int p1), .val (.int p2), .val (.int p3), .val (.int p4), .val (.int (f1 p0)), .val (.int (f1 p1)), .val (.int (f1 p2)), .val (.int (f1 p3)), o9, .val (.int cc), .val (.int dd), .val (.ref b5), .val (.ref b7), .val (.int (0 : Int32)), .unset, .unset] [(.ref b7), (.ref b5)])) rfl (by rw [hml]; rfl) (argsL := [(.ref b7)]) (rest := []) (lenOf pd_0_2 rfl) rfl (by show 2 * 0 + _ ≤ _; exact Nat.le_of_eq rfl) (hb hby at_169) rfl rfl (by decide) (by decide) ?_
              rintro _ T27 L27 X27 ⟨rfl, Nq27, e27⟩
              have N27 := Fr.app N8 Nq27
              show OGo _ _ _ _ _ _ _ (T27.setTop (mkF m 172 #[.val (.int p0), .val (.int p1), .val (.int p2), .val (.int p3), .val (.int p4), .val (.int (f1 p0)), .val (.int (f1 p1)), .val (.int (f1 p2)), .val (.int (f1 p3)), o9, .val (.int cc), .val (.int dd), .val (.ref b5), .val (.ref b7), .val (.int (0 : Int32)), .unset, .unset] [(.int (f6 (f5 cc dd) (f5 (f1 p0) (f1 p1)) (f2 cc dd) (f2 (f1 p0) (f1 p1))))]))
              refine OGo.step (F' := T27.setTop (mkF m 193 #[.val (.int p0), .val (.int p1), .val (.int p2), .val (.int p3), .val (.int p4), .val (.int (f1 p0)), .val (.int (f1 p1)), .val (.int (f1 p2)), .val (.int (f1 p3)), o9, .val (.int cc), .val (.int dd), .val (.ref b5), .val (.ref b7), .val (.int (0 : Int32)), .val (.int (1 : Int32)), .unset] [(.ref b5), (.ref b7)])) (fun t kt => ?_) ?_
              · show Steps p.tables e below (T27.setTop (mkF m 172 #[.val (.int p0), .val (.int p1), .val (.int p2), .val (.int p3), .val (.int p4), .val (.int (f1 p0)), .val (.int (f1 p1)), .val (.int (f1 p2)), .val (.int (f1 p3)), o9, .val (.int cc), .val (.int dd), .val (.ref b5), .val (.ref b7), .val (.int (0 : Int32)), .unset, .unset] [(.int (f6 (f5 cc dd) (f5 (f1 p0) (f1 p1)) (f2 cc dd) (f2 (f1 p0) (f1 p1))))])) t
                refine XS.iload X27.here hx rfl (hb hby at_172) rfl ?_
                show Steps p.tables e below (T27.setTop (mkF m 174 #[.val (.int p0), .val (.int p1), .val (.int p2), .val (.int p3), .val (.int p4), .val (.int (f1 p0)), .val (.int (f1 p1)), .val (.int (f1 p2)), .val (.int (f1 p3)), o9, .val (.int cc), .val (.int dd), .val (.ref b5), .val (.ref b7), .val (.int (0 : Int32)), .unset, .unset] [(.int (0 : Int32)), (.int (f6 (f5 cc dd) (f5 (f1 p0) (f1 p1)) (f2 cc dd) (f2 (f1 p0) (f1 p1))))])) t
                refine XS.icmpNo X27.here hx rfl (hb hby at_174) rfl (teq (own_eq0 (fun q => q.elim (fun z => hc141 z.2) (fun z => hc148 z.1)))).2 ?_
                show Steps p.tables e below (T27.setTop (mkF m 177 #[.val (.int p0), .val (.int p1), .val (.int p2), .val (.int p3), .val (.int p4), .val (.int (f1 p0)), .val (.int (f1 p1)), .val (.int (f1 p2)), .val (.int (f1 p3)), o9, .val (.int cc), .val (.int dd), .val (.ref b5), .val (.ref b7), .val (.int (0 : Int32)), .unset, .unset] [])) t
                refine XS.iconst X27.here hx rfl (hb hby at_177) ?_
                show Steps p.tables e below (T27.setTop (mkF m 178 #[.val (.int p0), .val (.int p1), .val (.int p2), .val (.int p3), .val (.int p4), .val (.int (f1 p0)), .val (.int (f1 p1)), .val (.int (f1 p2)), .val (.int (f1 p3)), o9, .val (.int cc), .val (.int dd), .val (.ref b5), .val (.ref b7), .val (.int (0 : Int32)), .unset, .unset] [(.int (1 : Int32))])) t
                refine XS.goto X27.here hx rfl (pc0 := 178) (pc' := 182) rfl (hb hby at_178) (by decide) (by decide) ?_
                show Steps p.tables e below (T27.setTop (mkF m 182 #[.val (.int p0), .val (.int p1), .val (.int p2), .val (.int p3), .val (.int p4), .val (.int (f1 p0)), .val (.int (f1 p1)), .val (.int (f1 p2)), .val (.int (f1 p3)), o9, .val (.int cc), .val (.int dd), .val (.ref b5), .val (.ref b7), .val (.int (0 : Int32)), .unset, .unset] [(.int (1 : Int32))])) t
                refine XS.istore X27.here hx rfl (hb hby at_182) rfl (l' := #[.val (.int p0), .val (.int p1), .val (.int p2), .val (.int p3), .val (.int p4), .val (.int (f1 p0)), .val (.int (f1 p1)), .val (.int (f1 p2)), .val (.int (f1 p3)), o9, .val (.int cc), .val (.int dd), .val (.ref b5), .val (.ref b7), .val (.int (0 : Int32)), .val (.int (1 : Int32)), .unset]) rfl ?_
                show Steps p.tables e below (T27.setTop (mkF m 184 #[.val (.int p0), .val (.int p1), .val (.int p2), .val (.int p3), .val (.int p4), .val (.int (f1 p0)), .val (.int (f1 p1)), .val (.int (f1 p2)), .val (.int (f1 p3)), o9, .val (.int cc), .val (.int dd), .val (.ref b5), .val (.ref b7), .val (.int (0 : Int32)), .val (.int (1 : Int32)), .unset] [])) t
                refine XS.iload X27.here hx rfl (hb hby at_184) rfl ?_
                show Steps p.tables e below (T27.setTop (mkF m 186 #[.val (.int p0), .val (.int p1), .val (.int p2), .val (.int p3), .val (.int p4), .val (.int (f1 p0)), .val (.int (f1 p1)), .val (.int (f1 p2)), .val (.int (f1 p3)), o9, .val (.int cc), .val (.int dd), .val (.ref b5), .val (.ref b7), .val (.int (0 : Int32)), .val (.int (1 : Int32)), .unset] [(.int (1 : Int32))])) t
                refine XS.ifNo X27.here hx rfl (hb hby at_186) rfl ((if0 _ _).trans (feq (by decide : ¬ ((1 : Int32) = (0 : Int32)))).1) ?_
                show Steps p.tables e below (T27.setTop (mkF m 189 #[.val (.int p0), .val (.int p1), .val (.int p2), .val (.int p3), .val (.int p4), .val (.int (f1 p0)), .val (.int (f1 p1)), .val (.int (f1 p2)), .val (.int (f1 p3)), o9, .val (.int cc), .val (.int dd), .val (.ref b5), .val (.ref b7), .val (.int (0 : Int32)), .val (.int (1 : Int32)), .unset] [])) t
                refine XS.aload X27.here hx rfl (hb hby at_189) rfl rfl ?_
                show Steps p.tables e below (T27.setTop (mkF m 191 #[.val (.int p0), .val (.int p1), .val (.int p2), .val (.int p3), .val (.int p4), .val (.int (f1 p0)), .val (.int (f1 p1)), .val (.int (f1 p2)), .val (.int (f1 p3)), o9, .val (.int cc), .val (.int dd), .val (.ref b5), .val (.ref b7), .val (.int (0 : Int32)), .val (.int (1 : Int32)), .unset] [(.ref b7)])) t
                refine XS.aload X27.here hx rfl (hb hby at_191) rfl rfl ?_
                exact kt
              refine OGo.callV X27 hx hZ (y := (⟨"com/example/harlow/harlow/core/topology/NodePair", "equals", "(Ljava/lang/Object;)Z"⟩ : MethodName)) (z := (⟨"com/example/harlow/harlow/core/topology/NodePair", "equals", "(Ljava/lang/Object;)Z"⟩ : MethodName)) hown (own_wd hw 26 rfl) (own_wd hw 27 rfl) (notFace_of_selects (args := #[]) (mvT hZ (own_wd hw 29 rfl))) (own_wd hw 29 rfl) (own_wd hw 28 rfl) (own_wd hw 11 rfl) (own_wd hw 30 rfl) (by decide) (rm6 l Z az hw [] b7 b5 (f5 (f1 p0) (f1 p1)) (f5 cc dd) (f2 (f1 p0) (f1 p1)) (f2 cc dd) T8.heap n0 (Nat.le_trans Z0 KC8.1) ((P6_0.ext E7).keep K8) ((P6_1.ext E7).keep K8 (ninS (Nat.ne_of_lt (Nat.lt_of_lt_of_le P6_0.lt (Nat.le_of_eq g7.symm))) nin0)) P8_1 ((P6_2.ext E7).keep K8 (ninS (Nat.ne_of_lt (Nat.lt_of_lt_of_le P6_0.lt (Nat.le_of_eq g7.symm))) nin0)) P8_2) (W := 0) (by decide) (by decide) P8_0 (g := (mkF m 193 #[.val (.int p0), .val (.int p1), .val (.int p2), .val (.int p3), .val (.int p4), .val (.int (f1 p0)), .val (.int (f1 p1)), .val (.int (f1 p2)), .val (.int (f1 p3)), o9, .val (.int cc), .val (.int dd), .val (.ref b5), .val (.ref b7), .val (.int (0 : Int32)), .val (.int (1 : Int32)), .unset] [(.ref b5), (.ref b7)])) rfl (by rw [hml]; rfl) (argsL := [(.ref b5)]) (rest := []) (lenOf pd_0_2 rfl) rfl (by show 2 * 0 + _ ≤ _; exact Nat.le_of_eq rfl) (hb hby at_193) rfl e27 (by decide) (by decide) ?_
              rintro _ T28 L28 X28 ⟨rfl, Nq28, e28⟩
              have N28 := Fr.app N27 Nq28
              show OGo _ _ _ _ _ _ _ (T28.setTop (mkF m 196 #[.val (.int p0), .val (.int p1), .val (.int p2), .val (.int p3), .val (.int p4), .val (.int (f1 p0)), .val (.int (f1 p1)), .val (.int (f1 p2)), .val (.int (f1 p3)), o9, .val (.int cc), .val (.int dd), .val (.ref b5), .val (.ref b7), .val (.int (0 : Int32)), .val (.int (1 : Int32)), .unset] [(.int (f6 (f5 (f1 p0) (f1 p1)) (f5 cc dd) (f2 (f1 p0) (f1 p1)) (f2 cc dd)))]))
              refine OGo.step (F' := T28.setTop (mkF m 217 #[.val (.int p0), .val (.int p1), .val (.int p2), .val (.int p3), .val (.int p4), .val (.int (f1 p0)), .val (.int (f1 p1)), .val (.int (f1 p2)), .val (.int (f1 p3)), o9, .val (.int cc), .val (.int dd), .val (.ref b5), .val (.ref b7), .val (.int (0 : Int32)), .val (.int (1 : Int32)), .unset] [(.ref b5), (.ref b5)])) (fun t kt => ?_) ?_
              · show Steps p.tables e below (T28.setTop (mkF m 196 #[.val (.int p0), .val (.int p1), .val (.int p2), .val (.int p3), .val (.int p4), .val (.int (f1 p0)), .val (.int (f1 p1)), .val (.int (f1 p2)), .val (.int (f1 p3)), o9, .val (.int cc), .val (.int dd), .val (.ref b5), .val (.ref b7), .val (.int (0 : Int32)), .val (.int (1 : Int32)), .unset] [(.int (f6 (f5 (f1 p0) (f1 p1)) (f5 cc dd) (f2 (f1 p0) (f1 p1)) (f2 cc dd)))])) t
                refine XS.iload X28.here hx rfl (hb hby at_196) rfl ?_
                show Steps p.tables e below (T28.setTop (mkF m 198 #[.val (.int p0), .val (.int p1), .val (.int p2), .val (.int p3), .val (.int p4), .val (.int (f1 p0)), .val (.int (f1 p1)), .val (.int (f1 p2)), .val (.int (f1 p3)), o9, .val (.int cc), .val (.int dd), .val (.ref b5), .val (.ref b7), .val (.int (0 : Int32)), .val (.int (1 : Int32)), .unset] [(.int (0 : Int32)), (.int (f6 (f5 (f1 p0) (f1 p1)) (f5 cc dd) (f2 (f1 p0) (f1 p1)) (f2 cc dd)))])) t
                refine XS.icmpNo X28.here hx rfl (hb hby at_198) rfl (teq ((own_com _ _ _ _).trans (own_eq0 (fun q => q.elim (fun z => hc141 z.2) (fun z => hc148 z.1))))).2 ?_
                show Steps p.tables e below (T28.setTop (mkF m 201 #[.val (.int p0), .val (.int p1), .val (.int p2), .val (.int p3), .val (.int p4), .val (.int (f1 p0)), .val (.int (f1 p1)), .val (.int (f1 p2)), .val (.int (f1 p3)), o9, .val (.int cc), .val (.int dd), .val (.ref b5), .val (.ref b7), .val (.int (0 : Int32)), .val (.int (1 : Int32)), .unset] [])) t
                refine XS.iconst X28.here hx rfl (hb hby at_201) ?_
                show Steps p.tables e below (T28.setTop (mkF m 202 #[.val (.int p0), .val (.int p1), .val (.int p2), .val (.int p3), .val (.int p4), .val (.int (f1 p0)), .val (.int (f1 p1)), .val (.int (f1 p2)), .val (.int (f1 p3)), o9, .val (.int cc), .val (.int dd), .val (.ref b5), .val (.ref b7), .val (.int (0 : Int32)), .val (.int (1 : Int32)), .unset] [(.int (1 : Int32))])) t
                refine XS.goto X28.here hx rfl (pc0 := 202) (pc' := 206) rfl (hb hby at_202) (by decide) (by decide) ?_
                show Steps p.tables e below (T28.setTop (mkF m 206 #[.val (.int p0), .val (.int p1), .val (.int p2), .val (.int p3), .val (.int p4), .val (.int (f1 p0)), .val (.int (f1 p1)), .val (.int (f1 p2)), .val (.int (f1 p3)), o9, .val (.int cc), .val (.int dd), .val (.ref b5), .val (.ref b7), .val (.int (0 : Int32)), .val (.int (1 : Int32)), .unset] [(.int (1 : Int32))])) t
                refine XS.istore X28.here hx rfl (hb hby at_206) rfl (l' := #[.val (.int p0), .val (.int p1), .val (.int p2), .val (.int p3), .val (.int p4), .val (.int (f1 p0)), .val (.int (f1 p1)), .val (.int (f1 p2)), .val (.int (f1 p3)), o9, .val (.int cc), .val (.int dd), .val (.ref b5), .val (.ref b7), .val (.int (0 : Int32)), .val (.int (1 : Int32)), .unset]) rfl ?_
                show Steps p.tables e below (T28.setTop (mkF m 208 #[.val (.int p0), .val (.int p1), .val (.int p2), .val (.int p3), .val (.int p4), .val (.int (f1 p0)), .val (.int (f1 p1)), .val (.int (f1 p2)), .val (.int (f1 p3)), o9, .val (.int cc), .val (.int dd), .val (.ref b5), .val (.ref b7), .val (.int (0 : Int32)), .val (.int (1 : Int32)), .unset] [])) t
                refine XS.iload X28.here hx rfl (hb hby at_208) rfl ?_
                show Steps p.tables e below (T28.setTop (mkF m 210 #[.val (.int p0), .val (.int p1), .val (.int p2), .val (.int p3), .val (.int p4), .val (.int (f1 p0)), .val (.int (f1 p1)), .val (.int (f1 p2)), .val (.int (f1 p3)), o9, .val (.int cc), .val (.int dd), .val (.ref b5), .val (.ref b7), .val (.int (0 : Int32)), .val (.int (1 : Int32)), .unset] [(.int (1 : Int32))])) t
                refine XS.ifNo X28.here hx rfl (hb hby at_210) rfl ((if0 _ _).trans (feq (by decide : ¬ ((1 : Int32) = (0 : Int32)))).1) ?_
                show Steps p.tables e below (T28.setTop (mkF m 213 #[.val (.int p0), .val (.int p1), .val (.int p2), .val (.int p3), .val (.int p4), .val (.int (f1 p0)), .val (.int (f1 p1)), .val (.int (f1 p2)), .val (.int (f1 p3)), o9, .val (.int cc), .val (.int dd), .val (.ref b5), .val (.ref b7), .val (.int (0 : Int32)), .val (.int (1 : Int32)), .unset] [])) t
                refine XS.aload X28.here hx rfl (hb hby at_213) rfl rfl ?_
                show Steps p.tables e below (T28.setTop (mkF m 215 #[.val (.int p0), .val (.int p1), .val (.int p2), .val (.int p3), .val (.int p4), .val (.int (f1 p0)), .val (.int (f1 p1)), .val (.int (f1 p2)), .val (.int (f1 p3)), o9, .val (.int cc), .val (.int dd), .val (.ref b5), .val (.ref b7), .val (.int (0 : Int32)), .val (.int (1 : Int32)), .unset] [(.ref b5)])) t
                refine XS.aload X28.here hx rfl (hb hby at_215) rfl rfl ?_
                exact kt
              refine OGo.callV X28 hx hZ (y := (⟨"com/example/harlow/harlow/core/topology/NodePair", "equals", "(Ljava/lang/Object;)Z"⟩ : MethodName)) (z := (⟨"com/example/harlow/harlow/core/topology/NodePair", "equals", "(Ljava/lang/Object;)Z"⟩ : MethodName)) hown (own_wd hw 26 rfl) (own_wd hw 27 rfl) (notFace_of_selects (args := #[]) (mvT hZ (own_wd hw 29 rfl))) (own_wd hw 29 rfl) (own_wd hw 28 rfl) (own_wd hw 11 rfl) (own_wd hw 30 rfl) (by decide) (rm6 l Z az hw [] b5 b5 (f5 (f1 p0) (f1 p1)) (f5 (f1 p0) (f1 p1)) (f2 (f1 p0) (f1 p1)) (f2 (f1 p0) (f1 p1)) T8.heap n0 (Nat.le_trans Z0 KC8.1) ((P6_0.ext E7).keep K8) ((P6_1.ext E7).keep K8 (ninS (Nat.ne_of_lt (Nat.lt_of_lt_of_le P6_0.lt (Nat.le_of_eq g7.symm))) nin0)) ((P6_1.ext E7).keep K8 (ninS (Nat.ne_of_lt (Nat.lt_of_lt_of_le P6_0.lt (Nat.le_of_eq g7.symm))) nin0)) ((P6_2.ext E7).keep K8 (ninS (Nat.ne_of_lt (Nat.lt_of_lt_of_le P6_0.lt (Nat.le_of_eq g7.symm))) nin0)) ((P6_2.ext E7).keep K8 (ninS (Nat.ne_of_lt (Nat.lt_of_lt_of_le P6_0.lt (Nat.le_of_eq g7.symm))) nin0))) (W := 0) (by decide) (by decide) ((P6_0.ext E7).keep K8) (g := (mkF m 217 #[.val (.int p0), .val (.int p1), .val (.int p2), .val (.int p3), .val (.int p4), .val (.int (f1 p0)), .val (.int (f1 p1)), .val (.int (f1 p2)), .val (.int (f1 p3)), o9, .val (.int cc), .val (.int dd), .val (.ref b5), .val (.ref b7), .val (.int (0 : Int32)), .val (.int (1 : Int32)), .unset] [(.ref b5), (.ref b5)])) rfl (by rw [hml]; rfl) (argsL := [(.ref b5)]) (rest := []) (lenOf pd_0_2 rfl) rfl (by show 2 * 0 + _ ≤ _; exact Nat.le_of_eq rfl) (hb hby at_217) rfl e28 (by decide) (by decide) ?_
              rintro _ T29 L29 X29 ⟨rfl, Nq29, e29⟩
              have N29 := Fr.app N28 Nq29
              show OGo _ _ _ _ _ _ _ (T29.setTop (mkF m 220 #[.val (.int p0), .val (.int p1), .val (.int p2), .val (.int p3), .val (.int p4), .val (.int (f1 p0)), .val (.int (f1 p1)), .val (.int (f1 p2)), .val (.int (f1 p3)), o9, .val (.int cc), .val (.int dd), .val (.ref b5), .val (.ref b7), .val (.int (0 : Int32)), .val (.int (1 : Int32)), .unset] [(.int (f6 (f5 (f1 p0) (f1 p1)) (f5 (f1 p0) (f1 p1)) (f2 (f1 p0) (f1 p1)) (f2 (f1 p0) (f1 p1))))]))
              refine OGo.step (F' := T29.setTop (mkF m 238 #[.val (.int p0), .val (.int p1), .val (.int p2), .val (.int p3), .val (.int p4), .val (.int (f1 p0)), .val (.int (f1 p1)), .val (.int (f1 p2)), .val (.int (f1 p3)), o9, .val (.int cc), .val (.int dd), .val (.ref b5), .val (.ref b7), .val (.int (0 : Int32)), .val (.int (1 : Int32)), .unset] [.null, (.ref b5)])) (fun t kt => ?_) ?_
              · show Steps p.tables e below (T29.setTop (mkF m 220 #[.val (.int p0), .val (.int p1), .val (.int p2), .val (.int p3), .val (.int p4), .val (.int (f1 p0)), .val (.int (f1 p1)), .val (.int (f1 p2)), .val (.int (f1 p3)), o9, .val (.int cc), .val (.int dd), .val (.ref b5), .val (.ref b7), .val (.int (0 : Int32)), .val (.int (1 : Int32)), .unset] [(.int (f6 (f5 (f1 p0) (f1 p1)) (f5 (f1 p0) (f1 p1)) (f2 (f1 p0) (f1 p1)) (f2 (f1 p0) (f1 p1))))])) t
                refine XS.ifNo X29.here hx rfl (hb hby at_220) rfl ((if0 _ _).trans (feq (own_refl _ _)).1) ?_
                show Steps p.tables e below (T29.setTop (mkF m 223 #[.val (.int p0), .val (.int p1), .val (.int p2), .val (.int p3), .val (.int p4), .val (.int (f1 p0)), .val (.int (f1 p1)), .val (.int (f1 p2)), .val (.int (f1 p3)), o9, .val (.int cc), .val (.int dd), .val (.ref b5), .val (.ref b7), .val (.int (0 : Int32)), .val (.int (1 : Int32)), .unset] [])) t
                refine XS.iconst X29.here hx rfl (hb hby at_223) ?_
                show Steps p.tables e below (T29.setTop (mkF m 224 #[.val (.int p0), .val (.int p1), .val (.int p2), .val (.int p3), .val (.int p4), .val (.int (f1 p0)), .val (.int (f1 p1)), .val (.int (f1 p2)), .val (.int (f1 p3)), o9, .val (.int cc), .val (.int dd), .val (.ref b5), .val (.ref b7), .val (.int (0 : Int32)), .val (.int (1 : Int32)), .unset] [(.int (1 : Int32))])) t
                refine XS.goto X29.here hx rfl (pc0 := 224) (pc' := 228) rfl (hb hby at_224) (by decide) (by decide) ?_
                show Steps p.tables e below (T29.setTop (mkF m 228 #[.val (.int p0), .val (.int p1), .val (.int p2), .val (.int p3), .val (.int p4), .val (.int (f1 p0)), .val (.int (f1 p1)), .val (.int (f1 p2)), .val (.int (f1 p3)), o9, .val (.int cc), .val (.int dd), .val (.ref b5), .val (.ref b7), .val (.int (0 : Int32)), .val (.int (1 : Int32)), .unset] [(.int (1 : Int32))])) t
                refine XS.istore X29.here hx rfl (hb hby at_228) rfl (l' := #[.val (.int p0), .val (.int p1), .val (.int p2), .val (.int p3), .val (.int p4), .val (.int (f1 p0)), .val (.int (f1 p1)), .val (.int (f1 p2)), .val (.int (f1 p3)), o9, .val (.int cc), .val (.int dd), .val (.ref b5), .val (.ref b7), .val (.int (0 : Int32)), .val (.int (1 : Int32)), .unset]) rfl ?_
                show Steps p.tables e below (T29.setTop (mkF m 230 #[.val (.int p0), .val (.int p1), .val (.int p2), .val (.int p3), .val (.int p4), .val (.int (f1 p0)), .val (.int (f1 p1)), .val (.int (f1 p2)), .val (.int (f1 p3)), o9, .val (.int cc), .val (.int dd), .val (.ref b5), .val (.ref b7), .val (.int (0 : Int32)), .val (.int (1 : Int32)), .unset] [])) t
                refine XS.iload X29.here hx rfl (hb hby at_230) rfl ?_
                show Steps p.tables e below (T29.setTop (mkF m 232 #[.val (.int p0), .val (.int p1), .val (.int p2), .val (.int p3), .val (.int p4), .val (.int (f1 p0)), .val (.int (f1 p1)), .val (.int (f1 p2)), .val (.int (f1 p3)), o9, .val (.int cc), .val (.int dd), .val (.ref b5), .val (.ref b7), .val (.int (0 : Int32)), .val (.int (1 : Int32)), .unset] [(.int (1 : Int32))])) t
                refine XS.ifNo X29.here hx rfl (hb hby at_232) rfl ((if0 _ _).trans (feq (by decide : ¬ ((1 : Int32) = (0 : Int32)))).1) ?_
                show Steps p.tables e below (T29.setTop (mkF m 235 #[.val (.int p0), .val (.int p1), .val (.int p2), .val (.int p3), .val (.int p4), .val (.int (f1 p0)), .val (.int (f1 p1)), .val (.int (f1 p2)), .val (.int (f1 p3)), o9, .val (.int cc), .val (.int dd), .val (.ref b5), .val (.ref b7), .val (.int (0 : Int32)), .val (.int (1 : Int32)), .unset] [])) t
                refine XS.aload X29.here hx rfl (hb hby at_235) rfl rfl ?_
                show Steps p.tables e below (T29.setTop (mkF m 237 #[.val (.int p0), .val (.int p1), .val (.int p2), .val (.int p3), .val (.int p4), .val (.int (f1 p0)), .val (.int (f1 p1)), .val (.int (f1 p2)), .val (.int (f1 p3)), o9, .val (.int cc), .val (.int dd), .val (.ref b5), .val (.ref b7), .val (.int (0 : Int32)), .val (.int (1 : Int32)), .unset] [(.ref b5)])) t
                refine XS.aconstNull X29.here hx rfl (hb hby at_237) ?_
                exact kt
              refine OGo.callV X29 hx hZ (y := (⟨"com/example/harlow/harlow/core/topology/NodePair", "equals", "(Ljava/lang/Object;)Z"⟩ : MethodName)) (z := (⟨"com/example/harlow/harlow/core/topology/NodePair", "equals", "(Ljava/lang/Object;)Z"⟩ : MethodName)) hown (own_wd hw 26 rfl) (own_wd hw 27 rfl) (notFace_of_selects (args := #[]) (mvT hZ (own_wd hw 29 rfl))) (own_wd hw 29 rfl) (own_wd hw 28 rfl) (own_wd hw 11 rfl) (own_wd hw 30 rfl) (by decide) (rm6z l Z az hw [] b5 T8.heap n0 (Nat.le_trans Z0 KC8.1)) (W := 0) (by decide) (by decide) ((P6_0.ext E7).keep K8) (g := (mkF m 238 #[.val (.int p0), .val (.int p1), .val (.int p2), .val (.int p3), .val (.int p4), .val (.int (f1 p0)), .val (.int (f1 p1)), .val (.int (f1 p2)), .val (.int (f1 p3)), o9, .val (.int cc), .val (.int dd), .val (.ref b5), .val (.ref b7), .val (.int (0 : Int32)), .val (.int (1 : Int32)), .unset] [.null, (.ref b5)])) rfl (by rw [hml]; rfl) (argsL := [.null]) (rest := []) (lenOf pd_0_2 rfl) rfl (by show 2 * 0 + _ ≤ _; exact Nat.le_of_eq rfl) (hb hby at_238) rfl e29 (by decide) (by decide) ?_
              rintro _ T30 L30 X30 ⟨hv30, Nq30, e30⟩
              have N30 := Fr.app N29 Nq30
              rw [show f6z = (0 : Int32) from rfl] at hv30
              subst hv30
              show OGo _ _ _ _ _ _ _ (T30.setTop (mkF m 241 #[.val (.int p0), .val (.int p1), .val (.int p2), .val (.int p3), .val (.int p4), .val (.int (f1 p0)), .val (.int (f1 p1)), .val (.int (f1 p2)), .val (.int (f1 p3)), o9, .val (.int cc), .val (.int dd), .val (.ref b5), .val (.ref b7), .val (.int (0 : Int32)), .val (.int (1 : Int32)), .unset] [(.int (0 : Int32))]))
              refine OGo.step (F' := T30.setTop (mkF m 253 #[.val (.int p0), .val (.int p1), .val (.int p2), .val (.int p3), .val (.int p4), .val (.int (f1 p0)), .val (.int (f1 p1)), .val (.int (f1 p2)), .val (.int (f1 p3)), o9, .val (.int cc), .val (.int dd), .val (.ref b5), .val (.ref b7), .val (.int (0 : Int32)), .val (.int (1 : Int32)), .unset] [(.int (f1 p0))])) (fun t kt => ?_) ?_
              · show Steps p.tables e below (T30.setTop (mkF m 241 #[.val (.int p0), .val (.int p1), .val (.int p2), .val (.int p3), .val (.int p4), .val (.int (f1 p0)), .val (.int (f1 p1)), .val (.int (f1 p2)), .val (.int (f1 p3)), o9, .val (.int cc), .val (.int dd), .val (.ref b5), .val (.ref b7), .val (.int (0 : Int32)), .val (.int (1 : Int32)), .unset] [(.int (0 : Int32))])) t
                refine XS.ifNo X30.here hx rfl (hb hby at_241) rfl ((if0 _ _).trans (teq (by decide : (0 : Int32) = (0 : Int32))).2) ?_
                show Steps p.tables e below (T30.setTop (mkF m 244 #[.val (.int p0), .val (.int p1), .val (.int p2), .val (.int p3), .val (.int p4), .val (.int (f1 p0)), .val (.int (f1 p1)), .val (.int (f1 p2)), .val (.int (f1 p3)), o9, .val (.int cc), .val (.int dd), .val (.ref b5), .val (.ref b7), .val (.int (0 : Int32)), .val (.int (1 : Int32)), .unset] [])) t
                refine XS.iconst X30.here hx rfl (hb hby at_244) ?_
                show Steps p.tables e below (T30.setTop (mkF m 245 #[.val (.int p0), .val (.int p1), .val (.int p2), .val (.int p3), .val (.int p4), .val (.int (f1 p0)), .val (.int (f1 p1)), .val (.int (f1 p2)), .val (.int (f1 p3)), o9, .val (.int cc), .val (.int dd), .val (.ref b5), .val (.ref b7), .val (.int (0 : Int32)), .val (.int (1 : Int32)), .unset] [(.int (1 : Int32))])) t
                refine XS.goto X30.here hx rfl (pc0 := 245) (pc' := 249) rfl (hb hby at_245) (by decide) (by decide) ?_
                show Steps p.tables e below (T30.setTop (mkF m 249 #[.val (.int p0), .val (.int p1), .val (.int p2), .val (.int p3), .val (.int p4), .val (.int (f1 p0)), .val (.int (f1 p1)), .val (.int (f1 p2)), .val (.int (f1 p3)), o9, .val (.int cc), .val (.int dd), .val (.ref b5), .val (.ref b7), .val (.int (0 : Int32)), .val (.int (1 : Int32)), .unset] [(.int (1 : Int32))])) t
                refine XS.istore X30.here hx rfl (hb hby at_249) rfl (l' := #[.val (.int p0), .val (.int p1), .val (.int p2), .val (.int p3), .val (.int p4), .val (.int (f1 p0)), .val (.int (f1 p1)), .val (.int (f1 p2)), .val (.int (f1 p3)), o9, .val (.int cc), .val (.int dd), .val (.ref b5), .val (.ref b7), .val (.int (0 : Int32)), .val (.int (1 : Int32)), .unset]) rfl ?_
                show Steps p.tables e below (T30.setTop (mkF m 251 #[.val (.int p0), .val (.int p1), .val (.int p2), .val (.int p3), .val (.int p4), .val (.int (f1 p0)), .val (.int (f1 p1)), .val (.int (f1 p2)), .val (.int (f1 p3)), o9, .val (.int cc), .val (.int dd), .val (.ref b5), .val (.ref b7), .val (.int (0 : Int32)), .val (.int (1 : Int32)), .unset] [])) t
                refine XS.iload X30.here hx rfl (hb hby at_251) rfl ?_
                exact kt
              refine OGo.callS X30 hx hZ (y := (⟨"java/lang/Integer", "valueOf", "(I)Ljava/lang/Integer;"⟩ : MethodName)) hown (own_wd hw 33 rfl) (own_wd hw 34 rfl) (own_wd hw 35 rfl) (own_wd hw 36 rfl) (by decide) (rm7 l Z az hw [] (f1 p0) w_high w_cache T8.heap n0 (Nat.le_trans Z0 KC8.1) (own_stakeep ((own_stakeep (S_high.ext E5) K6 (allS (own_obj A5) all0)).ext E7) K8 (allS (own_obj A7) all0)) (own_stakeep ((own_stakeep (S_cache.ext E5) K6 (allS (own_obj A5) all0)).ext E7) K8 (allS (own_obj A7) all0)) hHi ((((Ca.ext E5).keep K6 (ninS (Nat.ne_of_lt (Nat.lt_of_lt_of_le Ca.lt (Nat.le_of_eq g5.symm))) nin0)).ext E7).keep K8 (ninS (Nat.ne_of_lt (Nat.lt_of_lt_of_le ((Ca.ext E5).keep K6 (ninS (Nat.ne_of_lt (Nat.lt_of_lt_of_le Ca.lt (Nat.le_of_eq g5.symm))) nin0)).lt (Nat.le_of_eq g7.symm))) nin0))) (W := 0) (by decide) (by decide) (g := (mkF m 253 #[.val (.int p0), .val (.int p1), .val (.int p2), .val (.int p3), .val (.int p4), .val (.int (f1 p0)), .val (.int (f1 p1)), .val (.int (f1 p2)), .val (.int (f1 p3)), o9, .val (.int cc), .val (.int dd), .val (.ref b5), .val (.ref b7), .val (.int (0 : Int32)), .val (.int (1 : Int32)), .unset] [(.int (f1 p0))])) rfl (by rw [hml]; rfl) (argsL := [(.int (f1 p0))]) (rest := []) (lenOf pd_0_3 rfl) rfl (by show 2 * 0 + _ ≤ _; exact Nat.le_of_eq rfl) (hb hby at_253) rfl e30 (by decide) (by decide) ?_
              rintro _ T31 L31 X31 ⟨r31_r, rfl, Nq31, K31, P31_0⟩
              have KC31 : Keep h0 T31.heap [] := KC8.trans K31 all0
              have N31 := Fr.app N30 Nq31
              show OGo _ _ _ _ _ _ _ (T31.setTop (mkF m 256 #[.val (.int p0), .val (.int p1), .val (.int p2), .val (.int p3), .val (.int p4), .val (.int (f1 p0)), .val (.int (f1 p1)), .val (.int (f1 p2)), .val (.int (f1 p3)), o9, .val (.int cc), .val (.int dd), .val (.ref b5), .val (.ref b7), .val (.int (0 : Int32)), .val (.int (1 : Int32)), .unset] [(.ref r31_r)]))
              refine OGo.step (F' := T31.setTop (mkF m 267 #[.val (.int p0), .val (.int p1), .val (.int p2), .val (.int p3), .val (.int p4), .val (.int (f1 p0)), .val (.int (f1 p1)), .val (.int (f1 p2)), .val (.int (f1 p3)), o9, .val (.int cc), .val (.int dd), .val (.ref b5), .val (.ref b7), .val (.int (0 : Int32)), .val (.int (1 : Int32)), .val (.ref r31_r)] [(.ref r31_r), (.ref b5)])) (fun t kt => ?_) ?_
              · show Steps p.tables e below (T31.setTop (mkF m 256 #[.val (.int p0), .val (.int p1), .val (.int p2), .val (.int p3), .val (.int p4), .val (.int (f1 p0)), .val (.int (f1 p1)), .val (.int (f1 p2)), .val (.int (f1 p3)), o9, .val (.int cc), .val (.int dd), .val (.ref b5), .val (.ref b7), .val (.int (0 : Int32)), .val (.int (1 : Int32)), .unset] [(.ref r31_r)])) t
                refine XS.astore X31.here hx rfl (hb hby at_256) rfl rfl (l' := #[.val (.int p0), .val (.int p1), .val (.int p2), .val (.int p3), .val (.int p4), .val (.int (f1 p0)), .val (.int (f1 p1)), .val (.int (f1 p2)), .val (.int (f1 p3)), o9, .val (.int cc), .val (.int dd), .val (.ref b5), .val (.ref b7), .val (.int (0 : Int32)), .val (.int (1 : Int32)), .val (.ref r31_r)]) rfl ?_
                show Steps p.tables e below (T31.setTop (mkF m 258 #[.val (.int p0), .val (.int p1), .val (.int p2), .val (.int p3), .val (.int p4), .val (.int (f1 p0)), .val (.int (f1 p1)), .val (.int (f1 p2)), .val (.int (f1 p3)), o9, .val (.int cc), .val (.int dd), .val (.ref b5), .val (.ref b7), .val (.int (0 : Int32)), .val (.int (1 : Int32)), .val (.ref r31_r)] [])) t
                refine XS.iload X31.here hx rfl (hb hby at_258) rfl ?_
                show Steps p.tables e below (T31.setTop (mkF m 260 #[.val (.int p0), .val (.int p1), .val (.int p2), .val (.int p3), .val (.int p4), .val (.int (f1 p0)), .val (.int (f1 p1)), .val (.int (f1 p2)), .val (.int (f1 p3)), o9, .val (.int cc), .val (.int dd), .val (.ref b5), .val (.ref b7), .val (.int (0 : Int32)), .val (.int (1 : Int32)), .val (.ref r31_r)] [(.int (1 : Int32))])) t
                refine XS.ifNo X31.here hx rfl (hb hby at_260) rfl ((if0 _ _).trans (feq (by decide : ¬ ((1 : Int32) = (0 : Int32)))).1) ?_
                show Steps p.tables e below (T31.setTop (mkF m 263 #[.val (.int p0), .val (.int p1), .val (.int p2), .val (.int p3), .val (.int p4), .val (.int (f1 p0)), .val (.int (f1 p1)), .val (.int (f1 p2)), .val (.int (f1 p3)), o9, .val (.int cc), .val (.int dd), .val (.ref b5), .val (.ref b7), .val (.int (0 : Int32)), .val (.int (1 : Int32)), .val (.ref r31_r)] [])) t
                refine XS.aload X31.here hx rfl (hb hby at_263) rfl rfl ?_
                show Steps p.tables e below (T31.setTop (mkF m 265 #[.val (.int p0), .val (.int p1), .val (.int p2), .val (.int p3), .val (.int p4), .val (.int (f1 p0)), .val (.int (f1 p1)), .val (.int (f1 p2)), .val (.int (f1 p3)), o9, .val (.int cc), .val (.int dd), .val (.ref b5), .val (.ref b7), .val (.int (0 : Int32)), .val (.int (1 : Int32)), .val (.ref r31_r)] [(.ref b5)])) t
                refine XS.aload X31.here hx rfl (hb hby at_265) rfl rfl ?_
                exact kt
              refine OGo.callV X31 hx hZ (y := (⟨"com/example/harlow/harlow/core/topology/NodePair", "equals", "(Ljava/lang/Object;)Z"⟩ : MethodName)) (z := (⟨"com/example/harlow/harlow/core/topology/NodePair", "equals", "(Ljava/lang/Object;)Z"⟩ : MethodName)) hown (own_wd hw 26 rfl) (own_wd hw 27 rfl) (notFace_of_selects (args := #[]) (mvT hZ (own_wd hw 29 rfl))) (own_wd hw 29 rfl) (own_wd hw 28 rfl) (own_wd hw 11 rfl) (own_wd hw 30 rfl) (by decide) (rm6n l Z az hw [] b5 r31_r T31.heap n0 (Nat.le_trans Z0 KC31.1) P31_0) (W := 0) (by decide) (by decide) (((P6_0.ext E7).keep K8).keep K31) (g := (mkF m 267 #[.val (.int p0), .val (.int p1), .val (.int p2), .val (.int p3), .val (.int p4), .val (.int (f1 p0)), .val (.int (f1 p1)), .val (.int (f1 p2)), .val (.int (f1 p3)), o9, .val (.int cc), .val (.int dd), .val (.ref b5), .val (.ref b7), .val (.int (0 : Int32)), .val (.int (1 : Int32)), .val (.ref r31_r)] [(.ref r31_r), (.ref b5)])) rfl (by rw [hml]; rfl) (argsL := [(.ref r31_r)]) (rest := []) (lenOf pd_0_2 rfl) rfl (by show 2 * 0 + _ ≤ _; exact Nat.le_of_eq rfl) (hb hby at_267) rfl rfl (by decide) (by decide) ?_
              rintro _ T32 L32 X32 ⟨hv32, Nq32, e32⟩
              have N32 := Fr.app N31 Nq32
              rw [show f6n = (0 : Int32) from rfl] at hv32
              subst hv32
              show OGo _ _ _ _ _ _ _ (T32.setTop (mkF m 270 #[.val (.int p0), .val (.int p1), .val (.int p2), .val (.int p3), .val (.int p4), .val (.int (f1 p0)), .val (.int (f1 p1)), .val (.int (f1 p2)), .val (.int (f1 p3)), o9, .val (.int cc), .val (.int dd), .val (.ref b5), .val (.ref b7), .val (.int (0 : Int32)), .val (.int (1 : Int32)), .val (.ref r31_r)] [(.int (0 : Int32))]))
              refine OGo.step (F' := T32.setTop (mkF m 282 #[.val (.int p0), .val (.int p1), .val (.int p2), .val (.int p3), .val (.int p4), .val (.int (f1 p0)), .val (.int (f1 p1)), .val (.int (f1 p2)), .val (.int (f1 p3)), o9, .val (.int cc), .val (.int dd), .val (.ref b5), .val (.ref b7), .val (.int (0 : Int32)), .val (.int (1 : Int32)), .val (.ref r31_r)] [(.int (1 : Int32))])) (fun t kt => ?_) ?_
              · show Steps p.tables e below (T32.setTop (mkF m 270 #[.val (.int p0), .val (.int p1), .val (.int p2), .val (.int p3), .val (.int p4), .val (.int (f1 p0)), .val (.int (f1 p1)), .val (.int (f1 p2)), .val (.int (f1 p3)), o9, .val (.int cc), .val (.int dd), .val (.ref b5), .val (.ref b7), .val (.int (0 : Int32)), .val (.int (1 : Int32)), .val (.ref r31_r)] [(.int (0 : Int32))])) t
                refine XS.ifNo X32.here hx rfl (hb hby at_270) rfl ((if0 _ _).trans (teq (by decide : (0 : Int32) = (0 : Int32))).2) ?_
                show Steps p.tables e below (T32.setTop (mkF m 273 #[.val (.int p0), .val (.int p1), .val (.int p2), .val (.int p3), .val (.int p4), .val (.int (f1 p0)), .val (.int (f1 p1)), .val (.int (f1 p2)), .val (.int (f1 p3)), o9, .val (.int cc), .val (.int dd), .val (.ref b5), .val (.ref b7), .val (.int (0 : Int32)), .val (.int (1 : Int32)), .val (.ref r31_r)] [])) t
                refine XS.iconst X32.here hx rfl (hb hby at_273) ?_
                show Steps p.tables e below (T32.setTop (mkF m 274 #[.val (.int p0), .val (.int p1), .val (.int p2), .val (.int p3), .val (.int p4), .val (.int (f1 p0)), .val (.int (f1 p1)), .val (.int (f1 p2)), .val (.int (f1 p3)), o9, .val (.int cc), .val (.int dd), .val (.ref b5), .val (.ref b7), .val (.int (0 : Int32)), .val (.int (1 : Int32)), .val (.ref r31_r)] [(.int (1 : Int32))])) t
                refine XS.goto X32.here hx rfl (pc0 := 274) (pc' := 278) rfl (hb hby at_274) (by decide) (by decide) ?_
                show Steps p.tables e below (T32.setTop (mkF m 278 #[.val (.int p0), .val (.int p1), .val (.int p2), .val (.int p3), .val (.int p4), .val (.int (f1 p0)), .val (.int (f1 p1)), .val (.int (f1 p2)), .val (.int (f1 p3)), o9, .val (.int cc), .val (.int dd), .val (.ref b5), .val (.ref b7), .val (.int (0 : Int32)), .val (.int (1 : Int32)), .val (.ref r31_r)] [(.int (1 : Int32))])) t
                refine XS.istore X32.here hx rfl (hb hby at_278) rfl (l' := #[.val (.int p0), .val (.int p1), .val (.int p2), .val (.int p3), .val (.int p4), .val (.int (f1 p0)), .val (.int (f1 p1)), .val (.int (f1 p2)), .val (.int (f1 p3)), o9, .val (.int cc), .val (.int dd), .val (.ref b5), .val (.ref b7), .val (.int (0 : Int32)), .val (.int (1 : Int32)), .val (.ref r31_r)]) rfl ?_
                show Steps p.tables e below (T32.setTop (mkF m 280 #[.val (.int p0), .val (.int p1), .val (.int p2), .val (.int p3), .val (.int p4), .val (.int (f1 p0)), .val (.int (f1 p1)), .val (.int (f1 p2)), .val (.int (f1 p3)), o9, .val (.int cc), .val (.int dd), .val (.ref b5), .val (.ref b7), .val (.int (0 : Int32)), .val (.int (1 : Int32)), .val (.ref r31_r)] [])) t
                refine XS.iload X32.here hx rfl (hb hby at_280) rfl ?_
                exact kt
              refine OGo.retZ X32 hx hlk (t := .boolean) (z' := (1 : Int32)) hret (by simp) (hb hby at_282) rfl ?_ (by decide) (by decide)
              show Q0 Z p0 p1 p2 p3 p4 w_high w_cache h0 n0 _ T32.heap _
              rw [e32]
              exact ⟨rfl, N32, KC31⟩
        · refine OGo.step (F' := T8.setTop (mkF m 144 #[.val (.int p0), .val (.int p1), .val (.int p2), .val (.int p3), .val (.int p4), .val (.int (f1 p0)), .val (.int (f1 p1)), .val (.int (f1 p2)), .val (.int (f1 p3)), o9, .val (.int cc), .val (.int dd), .val (.ref b5), .val (.ref b7), .unset, .unset, .unset] [])) (fun t kt => ?_) ?_
          · show Steps p.tables e below (T8.setTop (mkF m 134 #[.val (.int p0), .val (.int p1), .val (.int p2), .val (.int p3), .val (.int p4), .val (.int (f1 p0)), .val (.int (f1 p1)), .val (.int (f1 p2)), .val (.int (f1 p3)), o9, .val (.int cc), .val (.int dd), .val (.ref b5), .val (.ref b7), .unset, .unset, .unset] [(.int cc), (.int (f1 p0))])) t
            refine XS.icmpYes X8.here hx rfl (pc0 := 134) (pc' := 144) rfl (hb hby at_134) rfl (feq hc134).2 (by decide) (by decide) ?_
            exact kt
          refine OGo.step (F' := T8.setTop (mkF m 148 #[.val (.int p0), .val (.int p1), .val (.int p2), .val (.int p3), .val (.int p4), .val (.int (f1 p0)), .val (.int (f1 p1)), .val (.int (f1 p2)), .val (.int (f1 p3)), o9, .val (.int cc), .val (.int dd), .val (.ref b5), .val (.ref b7), .unset, .unset, .unset] [(.int dd), (.int (f1 p0))])) (fun t kt => ?_) ?_
          · show Steps p.tables e below (T8.setTop (mkF m 144 #[.val (.int p0), .val (.int p1), .val (.int p2), .val (.int p3), .val (.int p4), .val (.int (f1 p0)), .val (.int (f1 p1)), .val (.int (f1 p2)), .val (.int (f1 p3)), o9, .val (.int cc), .val (.int dd), .val (.ref b5), .val (.ref b7), .unset, .unset, .unset] [])) t
            refine XS.iload X8.here hx rfl (hb hby at_144) rfl ?_
            show Steps p.tables e below (T8.setTop (mkF m 146 #[.val (.int p0), .val (.int p1), .val (.int p2), .val (.int p3), .val (.int p4), .val (.int (f1 p0)), .val (.int (f1 p1)), .val (.int (f1 p2)), .val (.int (f1 p3)), o9, .val (.int cc), .val (.int dd), .val (.ref b5), .val (.ref b7), .unset, .unset, .unset] [(.int (f1 p0))])) t
            refine XS.iload X8.here hx rfl (hb hby at_146) rfl ?_
            exact kt
          by_cases hc148 : (f1 p0) = dd
          · refine OGo.step (F' := T8.setTop (mkF m 151 #[.val (.int p0), .val (.int p1), .val (.int p2), .val (.int p3), .val (.int p4), .val (.int (f1 p0)), .val (.int (f1 p1)), .val (.int (f1 p2)), .val (.int (f1 p3)), o9, .val (.int cc), .val (.int dd), .val (.ref b5), .val (.ref b7), .unset, .unset, .unset] [])) (fun t kt => ?_) ?_
            · show Steps p.tables e below (T8.setTop (mkF m 148 #[.val (.int p0), .val (.int p1), .val (.int p2), .val (.int p3), .val (.int p4), .val (.int (f1 p0)), .val (.int (f1 p1)), .val (.int (f1 p2)), .val (.int (f1 p3)), o9, .val (.int cc), .val (.int dd), .val (.ref b5), .val (.ref b7), .unset, .unset, .unset] [(.int dd), (.int (f1 p0))])) t
              refine XS.icmpNo X8.here hx rfl (hb hby at_148) rfl (teq hc148).2 ?_
              exact kt
            refine OGo.step (F' := T8.setTop (mkF m 155 #[.val (.int p0), .val (.int p1), .val (.int p2), .val (.int p3), .val (.int p4), .val (.int (f1 p0)), .val (.int (f1 p1)), .val (.int (f1 p2)), .val (.int (f1 p3)), o9, .val (.int cc), .val (.int dd), .val (.ref b5), .val (.ref b7), .unset, .unset, .unset] [(.int cc), (.int (f1 p1))])) (fun t kt => ?_) ?_
            · show Steps p.tables e below (T8.setTop (mkF m 151 #[.val (.int p0), .val (.int p1), .val (.int p2), .val (.int p3), .val (.int p4), .val (.int (f1 p0)), .val (.int (f1 p1)), .val (.int (f1 p2)), .val (.int (f1 p3)), o9, .val (.int cc), .val (.int dd), .val (.ref b5), .val (.ref b7), .unset, .unset, .unset] [])) t
              refine XS.iload X8.here hx rfl (hb hby at_151) rfl ?_
              show Steps p.tables e below (T8.setTop (mkF m 153 #[.val (.int p0), .val (.int p1), .val (.int p2), .val (.int p3), .val (.int p4), .val (.int (f1 p0)), .val (.int (f1 p1)), .val (.int (f1 p2)), .val (.int (f1 p3)), o9, .val (.int cc), .val (.int dd), .val (.ref b5), .val (.ref b7), .unset, .unset, .unset] [(.int (f1 p1))])) t
              refine XS.iload X8.here hx rfl (hb hby at_153) rfl ?_
              exact kt
            by_cases hc155 : (f1 p1) = cc
            · refine OGo.step (F' := T8.setTop (mkF m 158 #[.val (.int p0), .val (.int p1), .val (.int p2), .val (.int p3), .val (.int p4), .val (.int (f1 p0)), .val (.int (f1 p1)), .val (.int (f1 p2)), .val (.int (f1 p3)), o9, .val (.int cc), .val (.int dd), .val (.ref b5), .val (.ref b7), .unset, .unset, .unset] [])) (fun t kt => ?_) ?_
              · show Steps p.tables e below (T8.setTop (mkF m 155 #[.val (.int p0), .val (.int p1), .val (.int p2), .val (.int p3), .val (.int p4), .val (.int (f1 p0)), .val (.int (f1 p1)), .val (.int (f1 p2)), .val (.int (f1 p3)), o9, .val (.int cc), .val (.int dd), .val (.ref b5), .val (.ref b7), .unset, .unset, .unset] [(.int cc), (.int (f1 p1))])) t
                refine XS.icmpNo X8.here hx rfl (hb hby at_155) rfl (teq hc155).2 ?_
                exact kt
              refine OGo.step (F' := T8.setTop (mkF m 169 #[.val (.int p0), .val (.int p1), .val (.int p2), .val (.int p3), .val (.int p4), .val (.int (f1 p0)), .val (.int (f1 p1)), .val (.int (f1 p2)), .val (.int (f1 p3)), o9, .val (.int cc), .val (.int dd), .val (.ref b5), .val (.ref b7), .val (.int (1 : Int32)), .unset, .unset] [(.ref b7), (.ref b5)])) (fun t kt => ?_) ?_
              · show Steps p.tables e below (T8.setTop (mkF m 158 #[.val (.int p0), .val (.int p1), .val (.int p2), .val (.int p3), .val (.int p4), .val (.int (f1 p0)), .val (.int (f1 p1)), .val (.int (f1 p2)), .val (.int (f1 p3)), o9, .val (.int cc), .val (.int dd), .val (.ref b5), .val (.ref b7), .unset, .unset, .unset] [])) t
                refine XS.iconst X8.here hx rfl (hb hby at_158) ?_
                show Steps p.tables e below (T8.setTop (mkF m 159 #[.val (.int p0), .val (.int p1), .val (.int p2), .val (.int p3), .val (.int p4), .val (.int (f1 p0)), .val (.int (f1 p1)), .val (.int (f1 p2)), .val (.int (f1 p3)), o9, .val (.int cc), .val (.int dd), .val (.ref b5), .val (.ref b7), .unset, .unset, .unset] [(.int (1 : Int32))])) t
                refine XS.goto X8.here hx rfl (pc0 := 159) (pc' := 163) rfl (hb hby at_159) (by decide) (by decide) ?_
                show Steps p.tables e below (T8.setTop (mkF m 163 #[.val (.int p0), .val (.int p1), .val (.int p2), .val (.int p3), .val (.int p4), .val (.int (f1 p0)), .val (.int (f1 p1)), .val (.int (f1 p2)), .val (.int (f1 p3)), o9, .val (.int cc), .val (.int dd), .val (.ref b5), .val (.ref b7), .unset, .unset, .unset] [(.int (1 : Int32))])) t
                refine XS.istore X8.here hx rfl (hb hby at_163) rfl (l' := #[.val (.int p0), .val (.int p1), .val (.int p2), .val (.int p3), .val (.int p4), .val (.int (f1 p0)), .val (.int (f1 p1)), .val (.int (f1 p2)), .val (.int (f1 p3)), o9, .val (.int cc), .val (.int dd), .val (.ref b5), .val (.ref b7), .val (.int (1 : Int32)), .unset, .unset]) rfl ?_
                show Steps p.tables e below (T8.setTop (mkF m 165 #[.val (.int p0), .val (.int p1), .val (.int p2), .val (.int p3), .val (.int p4), .val (.int (f1 p0)), .val (.int (f1 p1)), .val (.int (f1 p2)), .val (.int (f1 p3)), o9, .val (.int cc), .val (.int dd), .val (.ref b5), .val (.ref b7), .val (.int (1 : Int32)), .unset, .unset] [])) t
                refine XS.aload X8.here hx rfl (hb hby at_165) rfl rfl ?_
                show Steps p.tables e below (T8.setTop (mkF m 167 #[.val (.int p0), .val (.int p1), .val (.int p2), .val (.int p3), .val (.int p4), .val (.int (f1 p0)), .val (.int (f1 p1)), .val (.int (f1 p2)), .val (.int (f1 p3)), o9, .val (.int cc), .val (.int dd), .val (.ref b5), .val (.ref b7), .val (.int (1 : Int32)), .unset, .unset] [(.ref b5)])) t
                refine XS.aload X8.here hx rfl (hb hby at_167) rfl rfl ?_
                exact kt
              refine OGo.callV X8 hx hZ (y := (⟨"com/example/harlow/harlow/core/topology/NodePair", "equals", "(Ljava/lang/Object;)Z"⟩ : MethodName)) (z := (⟨"com/example/harlow/harlow/core/topology/NodePair", "equals", "(Ljava/lang/Object;)Z"⟩ : MethodName)) hown (own_wd hw 26 rfl) (own_wd hw 27 rfl) (notFace_of_selects (args := #[]) (mvT hZ (own_wd hw 29 rfl))) (own_wd hw 29 rfl) (own_wd hw 28 rfl) (own_wd hw 11 rfl) (own_wd hw 30 rfl) (by decide) (rm6 l Z az hw [] b5 b7 (f5 cc dd) (f5 (f1 p0) (f1 p1)) (f2 cc dd) (f2 (f1 p0) (f1 p1)) T8.heap n0 (Nat.le_trans Z0 KC8.1) P8_0 P8_1 ((P6_1.ext E7).keep K8 (ninS (Nat.ne_of_lt (Nat.lt_of_lt_of_le P6_0.lt (Nat.le_of_eq g7.symm))) nin0)) P8_2 ((P6_2.ext E7).keep K8 (ninS (Nat.ne_of_lt (Nat.lt_of_lt_of_le P6_0.lt (Nat.le_of_eq g7.symm))) nin0))) (W := 0) (by decide) (by decide) ((P6_0.ext E7).keep K8) (g := (mkF m 169 #[.val (.int p0), .val (.int p1), .val (.int p2), .val (.int p3), .val (.int p4), .val (.int (f1 p0)), .val (.int (f1 p1)), .val (.int (f1 p2)), .val (.int (f1 p3)), o9, .val (.int cc), .val (.int dd), .val (.ref b5), .val (.ref b7), .val (.int (1 : Int32)), .unset, .unset] [(.ref b7), (.ref b5)])) rfl (by rw [hml]; rfl) (argsL := [(.ref b7)]) (rest := []) (lenOf pd_0_2 rfl) rfl (by show 2 * 0 + _ ≤ _; exact Nat.le_of_eq rfl) (hb hby at_169) rfl rfl (by decide) (by decide) ?_
              rintro _ T33 L33 X33 ⟨rfl, Nq33, e33⟩
              have N33 := Fr.app N8 Nq33
              show OGo _ _ _ _ _ _ _ (T33.setTop (mkF m 172 #[.val (.int p0), .val (.int p1), .val (.int p2), .val (.int p3), .val (.int p4), .val (.int (f1 p0)), .val (.int (f1 p1)), .val (.int (f1 p2)), .val (.int (f1 p3)), o9, .val (.int cc), .val (.int dd), .val (.ref b5), .val (.ref b7), .val (.int (1 : Int32)), .unset, .unset] [(.int (f6 (f5 cc dd) (f5 (f1 p0) (f1 p1)) (f2 cc dd) (f2 (f1 p0) (f1 p1))))]))
              refine OGo.step (F' := T33.setTop (mkF m 193 #[.val (.int p0), .val (.int p1), .val (.int p2), .val (.int p3), .val (.int p4), .val (.int (f1 p0)), .val (.int (f1 p1)), .val (.int (f1 p2)), .val (.int (f1 p3)), o9, .val (.int cc), .val (.int dd), .val (.ref b5), .val (.ref b7), .val (.int (1 : Int32)), .val (.int (1 : Int32)), .unset] [(.ref b5), (.ref b7)])) (fun t kt => ?_) ?_
              · show Steps p.tables e below (T33.setTop (mkF m 172 #[.val (.int p0), .val (.int p1), .val (.int p2), .val (.int p3), .val (.int p4), .val (.int (f1 p0)), .val (.int (f1 p1)), .val (.int (f1 p2)), .val (.int (f1 p3)), o9, .val (.int cc), .val (.int dd), .val (.ref b5), .val (.ref b7), .val (.int (1 : Int32)), .unset, .unset] [(.int (f6 (f5 cc dd) (f5 (f1 p0) (f1 p1)) (f2 cc dd) (f2 (f1 p0) (f1 p1))))])) t
                refine XS.iload X33.here hx rfl (hb hby at_172) rfl ?_
                show Steps p.tables e below (T33.setTop (mkF m 174 #[.val (.int p0), .val (.int p1), .val (.int p2), .val (.int p3), .val (.int p4), .val (.int (f1 p0)), .val (.int (f1 p1)), .val (.int (f1 p2)), .val (.int (f1 p3)), o9, .val (.int cc), .val (.int dd), .val (.ref b5), .val (.ref b7), .val (.int (1 : Int32)), .unset, .unset] [(.int (1 : Int32)), (.int (f6 (f5 cc dd) (f5 (f1 p0) (f1 p1)) (f2 cc dd) (f2 (f1 p0) (f1 p1))))])) t
                refine XS.icmpNo X33.here hx rfl (hb hby at_174) rfl (teq (own_eq1 (Or.inr ⟨hc148, hc155⟩))).2 ?_
                show Steps p.tables e below (T33.setTop (mkF m 177 #[.val (.int p0), .val (.int p1), .val (.int p2), .val (.int p3), .val (.int p4), .val (.int (f1 p0)), .val (.int (f1 p1)), .val (.int (f1 p2)), .val (.int (f1 p3)), o9, .val (.int cc), .val (.int dd), .val (.ref b5), .val (.ref b7), .val (.int (1 : Int32)), .unset, .unset] [])) t
                refine XS.iconst X33.here hx rfl (hb hby at_177) ?_
                show Steps p.tables e below (T33.setTop (mkF m 178 #[.val (.int p0), .val (.int p1), .val (.int p2), .val (.int p3), .val (.int p4), .val (.int (f1 p0)), .val (.int (f1 p1)), .val (.int (f1 p2)), .val (.int (f1 p3)), o9, .val (.int cc), .val (.int dd), .val (.ref b5), .val (.ref b7), .val (.int (1 : Int32)), .unset, .unset] [(.int (1 : Int32))])) t
                refine XS.goto X33.here hx rfl (pc0 := 178) (pc' := 182) rfl (hb hby at_178) (by decide) (by decide) ?_
                show Steps p.tables e below (T33.setTop (mkF m 182 #[.val (.int p0), .val (.int p1), .val (.int p2), .val (.int p3), .val (.int p4), .val (.int (f1 p0)), .val (.int (f1 p1)), .val (.int (f1 p2)), .val (.int (f1 p3)), o9, .val (.int cc), .val (.int dd), .val (.ref b5), .val (.ref b7), .val (.int (1 : Int32)), .unset, .unset] [(.int (1 : Int32))])) t
                refine XS.istore X33.here hx rfl (hb hby at_182) rfl (l' := #[.val (.int p0), .val (.int p1), .val (.int p2), .val (.int p3), .val (.int p4), .val (.int (f1 p0)), .val (.int (f1 p1)), .val (.int (f1 p2)), .val (.int (f1 p3)), o9, .val (.int cc), .val (.int dd), .val (.ref b5), .val (.ref b7), .val (.int (1 : Int32)), .val (.int (1 : Int32)), .unset]) rfl ?_
                show Steps p.tables e below (T33.setTop (mkF m 184 #[.val (.int p0), .val (.int p1), .val (.int p2), .val (.int p3), .val (.int p4), .val (.int (f1 p0)), .val (.int (f1 p1)), .val (.int (f1 p2)), .val (.int (f1 p3)), o9, .val (.int cc), .val (.int dd), .val (.ref b5), .val (.ref b7), .val (.int (1 : Int32)), .val (.int (1 : Int32)), .unset] [])) t
                refine XS.iload X33.here hx rfl (hb hby at_184) rfl ?_
                show Steps p.tables e below (T33.setTop (mkF m 186 #[.val (.int p0), .val (.int p1), .val (.int p2), .val (.int p3), .val (.int p4), .val (.int (f1 p0)), .val (.int (f1 p1)), .val (.int (f1 p2)), .val (.int (f1 p3)), o9, .val (.int cc), .val (.int dd), .val (.ref b5), .val (.ref b7), .val (.int (1 : Int32)), .val (.int (1 : Int32)), .unset] [(.int (1 : Int32))])) t
                refine XS.ifNo X33.here hx rfl (hb hby at_186) rfl ((if0 _ _).trans (feq (by decide : ¬ ((1 : Int32) = (0 : Int32)))).1) ?_
                show Steps p.tables e below (T33.setTop (mkF m 189 #[.val (.int p0), .val (.int p1), .val (.int p2), .val (.int p3), .val (.int p4), .val (.int (f1 p0)), .val (.int (f1 p1)), .val (.int (f1 p2)), .val (.int (f1 p3)), o9, .val (.int cc), .val (.int dd), .val (.ref b5), .val (.ref b7), .val (.int (1 : Int32)), .val (.int (1 : Int32)), .unset] [])) t
                refine XS.aload X33.here hx rfl (hb hby at_189) rfl rfl ?_
                show Steps p.tables e below (T33.setTop (mkF m 191 #[.val (.int p0), .val (.int p1), .val (.int p2), .val (.int p3), .val (.int p4), .val (.int (f1 p0)), .val (.int (f1 p1)), .val (.int (f1 p2)), .val (.int (f1 p3)), o9, .val (.int cc), .val (.int dd), .val (.ref b5), .val (.ref b7), .val (.int (1 : Int32)), .val (.int (1 : Int32)), .unset] [(.ref b7)])) t
                refine XS.aload X33.here hx rfl (hb hby at_191) rfl rfl ?_
                exact kt
              refine OGo.callV X33 hx hZ (y := (⟨"com/example/harlow/harlow/core/topology/NodePair", "equals", "(Ljava/lang/Object;)Z"⟩ : MethodName)) (z := (⟨"com/example/harlow/harlow/core/topology/NodePair", "equals", "(Ljava/lang/Object;)Z"⟩ : MethodName)) hown (own_wd hw 26 rfl) (own_wd hw 27 rfl) (notFace_of_selects (args := #[]) (mvT hZ (own_wd hw 29 rfl))) (own_wd hw 29 rfl) (own_wd hw 28 rfl) (own_wd hw 11 rfl) (own_wd hw 30 rfl) (by decide) (rm6 l Z az hw [] b7 b5 (f5 (f1 p0) (f1 p1)) (f5 cc dd) (f2 (f1 p0) (f1 p1)) (f2 cc dd) T8.heap n0 (Nat.le_trans Z0 KC8.1) ((P6_0.ext E7).keep K8) ((P6_1.ext E7).keep K8 (ninS (Nat.ne_of_lt (Nat.lt_of_lt_of_le P6_0.lt (Nat.le_of_eq g7.symm))) nin0)) P8_1 ((P6_2.ext E7).keep K8 (ninS (Nat.ne_of_lt (Nat.lt_of_lt_of_le P6_0.lt (Nat.le_of_eq g7.symm))) nin0)) P8_2) (W := 0) (by decide) (by decide) P8_0 (g := (mkF m 193 #[.val (.int p0), .val (.int p1), .val (.int p2), .val (.int p3), .val (.int p4), .val (.int (f1 p0)), .val (.int (f1 p1)), .val (.int (f1 p2)), .val (.int (f1 p3)), o9, .val (.int cc), .val (.int dd), .val (.ref b5), .val (.ref b7), .val (.int (1 : Int32)), .val (.int (1 : Int32)), .unset] [(.ref b5), (.ref b7)])) rfl (by rw [hml]; rfl) (argsL := [(.ref b5)]) (rest := []) (lenOf pd_0_2 rfl) rfl (by show 2 * 0 + _ ≤ _; exact Nat.le_of_eq rfl) (hb hby at_193) rfl e33 (by decide) (by decide) ?_
              rintro _ T34 L34 X34 ⟨rfl, Nq34, e34⟩
              have N34 := Fr.app N33 Nq34
              show OGo _ _ _ _ _ _ _ (T34.setTop (mkF m 196 #[.val (.int p0), .val (.int p1), .val (.int p2), .val (.int p3), .val (.int p4), .val (.int (f1 p0)), .val (.int (f1 p1)), .val (.int (f1 p2)), .val (.int (f1 p3)), o9, .val (.int cc), .val (.int dd), .val (.ref b5), .val (.ref b7), .val (.int (1 : Int32)), .val (.int (1 : Int32)), .unset] [(.int (f6 (f5 (f1 p0) (f1 p1)) (f5 cc dd) (f2 (f1 p0) (f1 p1)) (f2 cc dd)))]))
              refine OGo.step (F' := T34.setTop (mkF m 217 #[.val (.int p0), .val (.int p1), .val (.int p2), .val (.int p3), .val (.int p4), .val (.int (f1 p0)), .val (.int (f1 p1)), .val (.int (f1 p2)), .val (.int (f1 p3)), o9, .val (.int cc), .val (.int dd), .val (.ref b5), .val (.ref b7), .val (.int (1 : Int32)), .val (.int (1 : Int32)), .unset] [(.ref b5), (.ref b5)])) (fun t kt => ?_) ?_
              · show Steps p.tables e below (T34.setTop (mkF m 196 #[.val (.int p0), .val (.int p1), .val (.int p2), .val (.int p3), .val (.int p4), .val (.int (f1 p0)), .val (.int (f1 p1)), .val (.int (f1 p2)), .val (.int (f1 p3)), o9, .val (.int cc), .val (.int dd), .val (.ref b5), .val (.ref b7), .val (.int (1 : Int32)), .val (.int (1 : Int32)), .unset] [(.int (f6 (f5 (f1 p0) (f1 p1)) (f5 cc dd) (f2 (f1 p0) (f1 p1)) (f2 cc dd)))])) t
                refine XS.iload X34.here hx rfl (hb hby at_196) rfl ?_
                show Steps p.tables e below (T34.setTop (mkF m 198 #[.val (.int p0), .val (.int p1), .val (.int p2), .val (.int p3), .val (.int p4), .val (.int (f1 p0)), .val (.int (f1 p1)), .val (.int (f1 p2)), .val (.int (f1 p3)), o9, .val (.int cc), .val (.int dd), .val (.ref b5), .val (.ref b7), .val (.int (1 : Int32)), .val (.int (1 : Int32)), .unset] [(.int (1 : Int32)), (.int (f6 (f5 (f1 p0) (f1 p1)) (f5 cc dd) (f2 (f1 p0) (f1 p1)) (f2 cc dd)))])) t
                refine XS.icmpNo X34.here hx rfl (hb hby at_198) rfl (teq ((own_com _ _ _ _).trans (own_eq1 (Or.inr ⟨hc148, hc155⟩)))).2 ?_
                show Steps p.tables e below (T34.setTop (mkF m 201 #[.val (.int p0), .val (.int p1), .val (.int p2), .val (.int p3), .val (.int p4), .val (.int (f1 p0)), .val (.int (f1 p1)), .val (.int (f1 p2)), .val (.int (f1 p3)), o9, .val (.int cc), .val (.int dd), .val (.ref b5), .val (.ref b7), .val (.int (1 : Int32)), .val (.int (1 : Int32)), .unset] [])) t
                refine XS.iconst X34.here hx rfl (hb hby at_201) ?_
                show Steps p.tables e below (T34.setTop (mkF m 202 #[.val (.int p0), .val (.int p1), .val (.int p2), .val (.int p3), .val (.int p4), .val (.int (f1 p0)), .val (.int (f1 p1)), .val (.int (f1 p2)), .val (.int (f1 p3)), o9, .val (.int cc), .val (.int dd), .val (.ref b5), .val (.ref b7), .val (.int (1 : Int32)), .val (.int (1 : Int32)), .unset] [(.int (1 : Int32))])) t
                refine XS.goto X34.here hx rfl (pc0 := 202) (pc' := 206) rfl (hb hby at_202) (by decide) (by decide) ?_
                show Steps p.tables e below (T34.setTop (mkF m 206 #[.val (.int p0), .val (.int p1), .val (.int p2), .val (.int p3), .val (.int p4), .val (.int (f1 p0)), .val (.int (f1 p1)), .val (.int (f1 p2)), .val (.int (f1 p3)), o9, .val (.int cc), .val (.int dd), .val (.ref b5), .val (.ref b7), .val (.int (1 : Int32)), .val (.int (1 : Int32)), .unset] [(.int (1 : Int32))])) t
                refine XS.istore X34.here hx rfl (hb hby at_206) rfl (l' := #[.val (.int p0), .val (.int p1), .val (.int p2), .val (.int p3), .val (.int p4), .val (.int (f1 p0)), .val (.int (f1 p1)), .val (.int (f1 p2)), .val (.int (f1 p3)), o9, .val (.int cc), .val (.int dd), .val (.ref b5), .val (.ref b7), .val (.int (1 : Int32)), .val (.int (1 : Int32)), .unset]) rfl ?_
                show Steps p.tables e below (T34.setTop (mkF m 208 #[.val (.int p0), .val (.int p1), .val (.int p2), .val (.int p3), .val (.int p4), .val (.int (f1 p0)), .val (.int (f1 p1)), .val (.int (f1 p2)), .val (.int (f1 p3)), o9, .val (.int cc), .val (.int dd), .val (.ref b5), .val (.ref b7), .val (.int (1 : Int32)), .val (.int (1 : Int32)), .unset] [])) t
                refine XS.iload X34.here hx rfl (hb hby at_208) rfl ?_
                show Steps p.tables e below (T34.setTop (mkF m 210 #[.val (.int p0), .val (.int p1), .val (.int p2), .val (.int p3), .val (.int p4), .val (.int (f1 p0)), .val (.int (f1 p1)), .val (.int (f1 p2)), .val (.int (f1 p3)), o9, .val (.int cc), .val (.int dd), .val (.ref b5), .val (.ref b7), .val (.int (1 : Int32)), .val (.int (1 : Int32)), .unset] [(.int (1 : Int32))])) t
                refine XS.ifNo X34.here hx rfl (hb hby at_210) rfl ((if0 _ _).trans (feq (by decide : ¬ ((1 : Int32) = (0 : Int32)))).1) ?_
                show Steps p.tables e below (T34.setTop (mkF m 213 #[.val (.int p0), .val (.int p1), .val (.int p2), .val (.int p3), .val (.int p4), .val (.int (f1 p0)), .val (.int (f1 p1)), .val (.int (f1 p2)), .val (.int (f1 p3)), o9, .val (.int cc), .val (.int dd), .val (.ref b5), .val (.ref b7), .val (.int (1 : Int32)), .val (.int (1 : Int32)), .unset] [])) t
                refine XS.aload X34.here hx rfl (hb hby at_213) rfl rfl ?_
                show Steps p.tables e below (T34.setTop (mkF m 215 #[.val (.int p0), .val (.int p1), .val (.int p2), .val (.int p3), .val (.int p4), .val (.int (f1 p0)), .val (.int (f1 p1)), .val (.int (f1 p2)), .val (.int (f1 p3)), o9, .val (.int cc), .val (.int dd), .val (.ref b5), .val (.ref b7), .val (.int (1 : Int32)), .val (.int (1 : Int32)), .unset] [(.ref b5)])) t
                refine XS.aload X34.here hx rfl (hb hby at_215) rfl rfl ?_
                exact kt
              refine OGo.callV X34 hx hZ (y := (⟨"com/example/harlow/harlow/core/topology/NodePair", "equals", "(Ljava/lang/Object;)Z"⟩ : MethodName)) (z := (⟨"com/example/harlow/harlow/core/topology/NodePair", "equals", "(Ljava/lang/Object;)Z"⟩ : MethodName)) hown (own_wd hw 26 rfl) (own_wd hw 27 rfl) (notFace_of_selects (args := #[]) (mvT hZ (own_wd hw 29 rfl))) (own_wd hw 29 rfl) (own_wd hw 28 rfl) (own_wd hw 11 rfl) (own_wd hw 30 rfl) (by decide) (rm6 l Z az hw [] b5 b5 (f5 (f1 p0) (f1 p1)) (f5 (f1 p0) (f1 p1)) (f2 (f1 p0) (f1 p1)) (f2 (f1 p0) (f1 p1)) T8.heap n0 (Nat.le_trans Z0 KC8.1) ((P6_0.ext E7).keep K8) ((P6_1.ext E7).keep K8 (ninS (Nat.ne_of_lt (Nat.lt_of_lt_of_le P6_0.lt (Nat.le_of_eq g7.symm))) nin0)) ((P6_1.ext E7).keep K8 (ninS (Nat.ne_of_lt (Nat.lt_of_lt_of_le P6_0.lt (Nat.le_of_eq g7.symm))) nin0)) ((P6_2.ext E7).keep K8 (ninS (Nat.ne_of_lt (Nat.lt_of_lt_of_le P6_0.lt (Nat.le_of_eq g7.symm))) nin0)) ((P6_2.ext E7).keep K8 (ninS (Nat.ne_of_lt (Nat.lt_of_lt_of_le P6_0.lt (Nat.le_of_eq g7.symm))) nin0))) (W := 0) (by decide) (by decide) ((P6_0.ext E7).keep K8) (g := (mkF m 217 #[.val (.int p0), .val (.int p1), .val (.int p2), .val (.int p3), .val (.int p4), .val (.int (f1 p0)), .val (.int (f1 p1)), .val (.int (f1 p2)), .val (.int (f1 p3)), o9, .val (.int cc), .val (.int dd), .val (.ref b5), .val (.ref b7), .val (.int (1 : Int32)), .val (.int (1 : Int32)), .unset] [(.ref b5), (.ref b5)])) rfl (by rw [hml]; rfl) (argsL := [(.ref b5)]) (rest := []) (lenOf pd_0_2 rfl) rfl (by show 2 * 0 + _ ≤ _; exact Nat.le_of_eq rfl) (hb hby at_217) rfl e34 (by decide) (by decide) ?_
              rintro _ T35 L35 X35 ⟨rfl, Nq35, e35⟩
              have N35 := Fr.app N34 Nq35
              show OGo _ _ _ _ _ _ _ (T35.setTop (mkF m 220 #[.val (.int p0), .val (.int p1), .val (.int p2), .val (.int p3), .val (.int p4), .val (.int (f1 p0)), .val (.int (f1 p1)), .val (.int (f1 p2)), .val (.int (f1 p3)), o9, .val (.int cc), .val (.int dd), .val (.ref b5), .val (.ref b7), .val (.int (1 : Int32)), .val (.int (1 : Int32)), .unset] [(.int (f6 (f5 (f1 p0) (f1 p1)) (f5 (f1 p0) (f1 p1)) (f2 (f1 p0) (f1 p1)) (f2 (f1 p0) (f1 p1))))]))
              refine OGo.step (F' := T35.setTop (mkF m 238 #[.val (.int p0), .val (.int p1), .val (.int p2), .val (.int p3), .val (.int p4), .val (.int (f1 p0)), .val (.int (f1 p1)), .val (.int (f1 p2)), .val (.int (f1 p3)), o9, .val (.int cc), .val (.int dd), .val (.ref b5), .val (.ref b7), .val (.int (1 : Int32)), .val (.int (1 : Int32)), .unset] [.null, (.ref b5)])) (fun t kt => ?_) ?_
              · show Steps p.tables e below (T35.setTop (mkF m 220 #[.val (.int p0), .val (.int p1), .val (.int p2), .val (.int p3), .val (.int p4), .val (.int (f1 p0)), .val (.int (f1 p1)), .val (.int (f1 p2)), .val (.int (f1 p3)), o9, .val (.int cc), .val (.int dd), .val (.ref b5), .val (.ref b7), .val (.int (1 : Int32)), .val (.int (1 : Int32)), .unset] [(.int (f6 (f5 (f1 p0) (f1 p1)) (f5 (f1 p0) (f1 p1)) (f2 (f1 p0) (f1 p1)) (f2 (f1 p0) (f1 p1))))])) t
                refine XS.ifNo X35.here hx rfl (hb hby at_220) rfl ((if0 _ _).trans (feq (own_refl _ _)).1) ?_
                show Steps p.tables e below (T35.setTop (mkF m 223 #[.val (.int p0), .val (.int p1), .val (.int p2), .val (.int p3), .val (.int p4), .val (.int (f1 p0)), .val (.int (f1 p1)), .val (.int (f1 p2)), .val (.int (f1 p3)), o9, .val (.int cc), .val (.int dd), .val (.ref b5), .val (.ref b7), .val (.int (1 : Int32)), .val (.int (1 : Int32)), .unset] [])) t
                refine XS.iconst X35.here hx rfl (hb hby at_223) ?_
                show Steps p.tables e below (T35.setTop (mkF m 224 #[.val (.int p0), .val (.int p1), .val (.int p2), .val (.int p3), .val (.int p4), .val (.int (f1 p0)), .val (.int (f1 p1)), .val (.int (f1 p2)), .val (.int (f1 p3)), o9, .val (.int cc), .val (.int dd), .val (.ref b5), .val (.ref b7), .val (.int (1 : Int32)), .val (.int (1 : Int32)), .unset] [(.int (1 : Int32))])) t
                refine XS.goto X35.here hx rfl (pc0 := 224) (pc' := 228) rfl (hb hby at_224) (by decide) (by decide) ?_
                show Steps p.tables e below (T35.setTop (mkF m 228 #[.val (.int p0), .val (.int p1), .val (.int p2), .val (.int p3), .val (.int p4), .val (.int (f1 p0)), .val (.int (f1 p1)), .val (.int (f1 p2)), .val (.int (f1 p3)), o9, .val (.int cc), .val (.int dd), .val (.ref b5), .val (.ref b7), .val (.int (1 : Int32)), .val (.int (1 : Int32)), .unset] [(.int (1 : Int32))])) t
                refine XS.istore X35.here hx rfl (hb hby at_228) rfl (l' := #[.val (.int p0), .val (.int p1), .val (.int p2), .val (.int p3), .val (.int p4), .val (.int (f1 p0)), .val (.int (f1 p1)), .val (.int (f1 p2)), .val (.int (f1 p3)), o9, .val (.int cc), .val (.int dd), .val (.ref b5), .val (.ref b7), .val (.int (1 : Int32)), .val (.int (1 : Int32)), .unset]) rfl ?_
                show Steps p.tables e below (T35.setTop (mkF m 230 #[.val (.int p0), .val (.int p1), .val (.int p2), .val (.int p3), .val (.int p4), .val (.int (f1 p0)), .val (.int (f1 p1)), .val (.int (f1 p2)), .val (.int (f1 p3)), o9, .val (.int cc), .val (.int dd), .val (.ref b5), .val (.ref b7), .val (.int (1 : Int32)), .val (.int (1 : Int32)), .unset] [])) t
                refine XS.iload X35.here hx rfl (hb hby at_230) rfl ?_
                show Steps p.tables e below (T35.setTop (mkF m 232 #[.val (.int p0), .val (.int p1), .val (.int p2), .val (.int p3), .val (.int p4), .val (.int (f1 p0)), .val (.int (f1 p1)), .val (.int (f1 p2)), .val (.int (f1 p3)), o9, .val (.int cc), .val (.int dd), .val (.ref b5), .val (.ref b7), .val (.int (1 : Int32)), .val (.int (1 : Int32)), .unset] [(.int (1 : Int32))])) t
                refine XS.ifNo X35.here hx rfl (hb hby at_232) rfl ((if0 _ _).trans (feq (by decide : ¬ ((1 : Int32) = (0 : Int32)))).1) ?_
                show Steps p.tables e below (T35.setTop (mkF m 235 #[.val (.int p0), .val (.int p1), .val (.int p2), .val (.int p3), .val (.int p4), .val (.int (f1 p0)), .val (.int (f1 p1)), .val (.int (f1 p2)), .val (.int (f1 p3)), o9, .val (.int cc), .val (.int dd), .val (.ref b5), .val (.ref b7), .val (.int (1 : Int32)), .val (.int (1 : Int32)), .unset] [])) t
                refine XS.aload X35.here hx rfl (hb hby at_235) rfl rfl ?_
                show Steps p.tables e below (T35.setTop (mkF m 237 #[.val (.int p0), .val (.int p1), .val (.int p2), .val (.int p3), .val (.int p4), .val (.int (f1 p0)), .val (.int (f1 p1)), .val (.int (f1 p2)), .val (.int (f1 p3)), o9, .val (.int cc), .val (.int dd), .val (.ref b5), .val (.ref b7), .val (.int (1 : Int32)), .val (.int (1 : Int32)), .unset] [(.ref b5)])) t
                refine XS.aconstNull X35.here hx rfl (hb hby at_237) ?_
                exact kt
              refine OGo.callV X35 hx hZ (y := (⟨"com/example/harlow/harlow/core/topology/NodePair", "equals", "(Ljava/lang/Object;)Z"⟩ : MethodName)) (z := (⟨"com/example/harlow/harlow/core/topology/NodePair", "equals", "(Ljava/lang/Object;)Z"⟩ : MethodName)) hown (own_wd hw 26 rfl) (own_wd hw 27 rfl) (notFace_of_selects (args := #[]) (mvT hZ (own_wd hw 29 rfl))) (own_wd hw 29 rfl) (own_wd hw 28 rfl) (own_wd hw 11 rfl) (own_wd hw 30 rfl) (by decide) (rm6z l Z az hw [] b5 T8.heap n0 (Nat.le_trans Z0 KC8.1)) (W := 0) (by decide) (by decide) ((P6_0.ext E7).keep K8) (g := (mkF m 238 #[.val (.int p0), .val (.int p1), .val (.int p2), .val (.int p3), .val (.int p4), .val (.int (f1 p0)), .val (.int (f1 p1)), .val (.int (f1 p2)), .val (.int (f1 p3)), o9, .val (.int cc), .val (.int dd), .val (.ref b5), .val (.ref b7), .val (.int (1 : Int32)), .val (.int (1 : Int32)), .unset] [.null, (.ref b5)])) rfl (by rw [hml]; rfl) (argsL := [.null]) (rest := []) (lenOf pd_0_2 rfl) rfl (by show 2 * 0 + _ ≤ _; exact Nat.le_of_eq rfl) (hb hby at_238) rfl e35 (by decide) (by decide) ?_
              rintro _ T36 L36 X36 ⟨hv36, Nq36, e36⟩
              have N36 := Fr.app N35 Nq36
              rw [show f6z = (0 : Int32) from rfl] at hv36
              subst hv36
              show OGo _ _ _ _ _ _ _ (T36.setTop (mkF m 241 #[.val (.int p0), .val (.int p1), .val (.int p2), .val (.int p3), .val (.int p4), .val (.int (f1 p0)), .val (.int (f1 p1)), .val (.int (f1 p2)), .val (.int (f1 p3)), o9, .val (.int cc), .val (.int dd), .val (.ref b5), .val (.ref b7), .val (.int (1 : Int32)), .val (.int (1 : Int32)), .unset] [(.int (0 : Int32))]))
              refine OGo.step (F' := T36.setTop (mkF m 253 #[.val (.int p0), .val (.int p1), .val (.int p2), .val (.int p3), .val (.int p4), .val (.int (f1 p0)), .val (.int (f1 p1)), .val (.int (f1 p2)), .val (.int (f1 p3)), o9, .val (.int cc), .val (.int dd), .val (.ref b5), .val (.ref b7), .val (.int (1 : Int32)), .val (.int (1 : Int32)), .unset] [(.int (f1 p0))])) (fun t kt => ?_) ?_
              · show Steps p.tables e below (T36.setTop (mkF m 241 #[.val (.int p0), .val (.int p1), .val (.int p2), .val (.int p3), .val (.int p4), .val (.int (f1 p0)), .val (.int (f1 p1)), .val (.int (f1 p2)), .val (.int (f1 p3)), o9, .val (.int cc), .val (.int dd), .val (.ref b5), .val (.ref b7), .val (.int (1 : Int32)), .val (.int (1 : Int32)), .unset] [(.int (0 : Int32))])) t
                refine XS.ifNo X36.here hx rfl (hb hby at_241) rfl ((if0 _ _).trans (teq (by decide : (0 : Int32) = (0 : Int32))).2) ?_
                show Steps p.tables e below (T36.setTop (mkF m 244 #[.val (.int p0), .val (.int p1), .val (.int p2), .val (.int p3), .val (.int p4), .val (.int (f1 p0)), .val (.int (f1 p1)), .val (.int (f1 p2)), .val (.int (f1 p3)), o9, .val (.int cc), .val (.int dd), .val (.ref b5), .val (.ref b7), .val (.int (1 : Int32)), .val (.int (1 : Int32)), .unset] [])) t
                refine XS.iconst X36.here hx rfl (hb hby at_244) ?_
                show Steps p.tables e below (T36.setTop (mkF m 245 #[.val (.int p0), .val (.int p1), .val (.int p2), .val (.int p3), .val (.int p4), .val (.int (f1 p0)), .val (.int (f1 p1)), .val (.int (f1 p2)), .val (.int (f1 p3)), o9, .val (.int cc), .val (.int dd), .val (.ref b5), .val (.ref b7), .val (.int (1 : Int32)), .val (.int (1 : Int32)), .unset] [(.int (1 : Int32))])) t
                refine XS.goto X36.here hx rfl (pc0 := 245) (pc' := 249) rfl (hb hby at_245) (by decide) (by decide) ?_
                show Steps p.tables e below (T36.setTop (mkF m 249 #[.val (.int p0), .val (.int p1), .val (.int p2), .val (.int p3), .val (.int p4), .val (.int (f1 p0)), .val (.int (f1 p1)), .val (.int (f1 p2)), .val (.int (f1 p3)), o9, .val (.int cc), .val (.int dd), .val (.ref b5), .val (.ref b7), .val (.int (1 : Int32)), .val (.int (1 : Int32)), .unset] [(.int (1 : Int32))])) t
                refine XS.istore X36.here hx rfl (hb hby at_249) rfl (l' := #[.val (.int p0), .val (.int p1), .val (.int p2), .val (.int p3), .val (.int p4), .val (.int (f1 p0)), .val (.int (f1 p1)), .val (.int (f1 p2)), .val (.int (f1 p3)), o9, .val (.int cc), .val (.int dd), .val (.ref b5), .val (.ref b7), .val (.int (1 : Int32)), .val (.int (1 : Int32)), .unset]) rfl ?_
                show Steps p.tables e below (T36.setTop (mkF m 251 #[.val (.int p0), .val (.int p1), .val (.int p2), .val (.int p3), .val (.int p4), .val (.int (f1 p0)), .val (.int (f1 p1)), .val (.int (f1 p2)), .val (.int (f1 p3)), o9, .val (.int cc), .val (.int dd), .val (.ref b5), .val (.ref b7), .val (.int (1 : Int32)), .val (.int (1 : Int32)), .unset] [])) t
                refine XS.iload X36.here hx rfl (hb hby at_251) rfl ?_
                exact kt
              refine OGo.callS X36 hx hZ (y := (⟨"java/lang/Integer", "valueOf", "(I)Ljava/lang/Integer;"⟩ : MethodName)) hown (own_wd hw 33 rfl) (own_wd hw 34 rfl) (own_wd hw 35 rfl) (own_wd hw 36 rfl) (by decide) (rm7 l Z az hw [] (f1 p0) w_high w_cache T8.heap n0 (Nat.le_trans Z0 KC8.1) (own_stakeep ((own_stakeep (S_high.ext E5) K6 (allS (own_obj A5) all0)).ext E7) K8 (allS (own_obj A7) all0)) (own_stakeep ((own_stakeep (S_cache.ext E5) K6 (allS (own_obj A5) all0)).ext E7) K8 (allS (own_obj A7) all0)) hHi ((((Ca.ext E5).keep K6 (ninS (Nat.ne_of_lt (Nat.lt_of_lt_of_le Ca.lt (Nat.le_of_eq g5.symm))) nin0)).ext E7).keep K8 (ninS (Nat.ne_of_lt (Nat.lt_of_lt_of_le ((Ca.ext E5).keep K6 (ninS (Nat.ne_of_lt (Nat.lt_of_lt_of_le Ca.lt (Nat.le_of_eq g5.symm))) nin0)).lt (Nat.le_of_eq g7.symm))) nin0))) (W := 0) (by decide) (by decide) (g := (mkF m 253 #[.val (.int p0), .val (.int p1), .val (.int p2), .val (.int p3), .val (.int p4), .val (.int (f1 p0)), .val (.int (f1 p1)), .val (.int (f1 p2)), .val (.int (f1 p3)), o9, .val (.int cc), .val (.int dd), .val (.ref b5), .val (.ref b7), .val (.int (1 : Int32)), .val (.int (1 : Int32)), .unset] [(.int (f1 p0))])) rfl (by rw [hml]; rfl) (argsL := [(.int (f1 p0))]) (rest := []) (lenOf pd_0_3 rfl) rfl (by show 2 * 0 + _ ≤ _; exact Nat.le_of_eq rfl) (hb hby at_253) rfl e36 (by decide) (by decide) ?_
              rintro _ T37 L37 X37 ⟨r37_r, rfl, Nq37, K37, P37_0⟩
              have KC37 : Keep h0 T37.heap [] := KC8.trans K37 all0
              have N37 := Fr.app N36 Nq37
              show OGo _ _ _ _ _ _ _ (T37.setTop (mkF m 256 #[.val (.int p0), .val (.int p1), .val (.int p2), .val (.int p3), .val (.int p4), .val (.int (f1 p0)), .val (.int (f1 p1)), .val (.int (f1 p2)), .val (.int (f1 p3)), o9, .val (.int cc), .val (.int dd), .val (.ref b5), .val (.ref b7), .val (.int (1 : Int32)), .val (.int (1 : Int32)), .unset] [(.ref r37_r)]))
              refine OGo.step (F' := T37.setTop (mkF m 267 #[.val (.int p0), .val (.int p1), .val (.int p2), .val (.int p3), .val (.int p4), .val (.int (f1 p0)), .val (.int (f1 p1)), .val (.int (f1 p2)), .val (.int (f1 p3)), o9, .val (.int cc), .val (.int dd), .val (.ref b5), .val (.ref b7), .val (.int (1 : Int32)), .val (.int (1 : Int32)), .val (.ref r37_r)] [(.ref r37_r), (.ref b5)])) (fun t kt => ?_) ?_
              · show Steps p.tables e below (T37.setTop (mkF m 256 #[.val (.int p0), .val (.int p1), .val (.int p2), .val (.int p3), .val (.int p4), .val (.int (f1 p0)), .val (.int (f1 p1)), .val (.int (f1 p2)), .val (.int (f1 p3)), o9, .val (.int cc), .val (.int dd), .val (.ref b5), .val (.ref b7), .val (.int (1 : Int32)), .val (.int (1 : Int32)), .unset] [(.ref r37_r)])) t
                refine XS.astore X37.here hx rfl (hb hby at_256) rfl rfl (l' := #[.val (.int p0), .val (.int p1), .val (.int p2), .val (.int p3), .val (.int p4), .val (.int (f1 p0)), .val (.int (f1 p1)), .val (.int (f1 p2)), .val (.int (f1 p3)), o9, .val (.int cc), .val (.int dd), .val (.ref b5), .val (.ref b7), .val (.int (1 : Int32)), .val (.int (1 : Int32)), .val (.ref r37_r)]) rfl ?_
                show Steps p.tables e below (T37.setTop (mkF m 258 #[.val (.int p0), .val (.int p1), .val (.int p2), .val (.int p3), .val (.int p4), .val (.int (f1 p0)), .val (.int (f1 p1)), .val (.int (f1 p2)), .val (.int (f1 p3)), o9, .val (.int cc), .val (.int dd), .val (.ref b5), .val (.ref b7), .val (.int (1 : Int32)), .val (.int (1 : Int32)), .val (.ref r37_r)] [])) t
                refine XS.iload X37.here hx rfl (hb hby at_258) rfl ?_
                show Steps p.tables e below (T37.setTop (mkF m 260 #[.val (.int p0), .val (.int p1), .val (.int p2), .val (.int p3), .val (.int p4), .val (.int (f1 p0)), .val (.int (f1 p1)), .val (.int (f1 p2)), .val (.int (f1 p3)), o9, .val (.int cc), .val (.int dd), .val (.ref b5), .val (.ref b7), .val (.int (1 : Int32)), .val (.int (1 : Int32)), .val (.ref r37_r)] [(.int (1 : Int32))])) t
                refine XS.ifNo X37.here hx rfl (hb hby at_260) rfl ((if0 _ _).trans (feq (by decide : ¬ ((1 : Int32) = (0 : Int32)))).1) ?_
                show Steps p.tables e below (T37.setTop (mkF m 263 #[.val (.int p0), .val (.int p1), .val (.int p2), .val (.int p3), .val (.int p4), .val (.int (f1 p0)), .val (.int (f1 p1)), .val (.int (f1 p2)), .val (.int (f1 p3)), o9, .val (.int cc), .val (.int dd), .val (.ref b5), .val (.ref b7), .val (.int (1 : Int32)), .val (.int (1 : Int32)), .val (.ref r37_r)] [])) t
                refine XS.aload X37.here hx rfl (hb hby at_263) rfl rfl ?_
                show Steps p.tables e below (T37.setTop (mkF m 265 #[.val (.int p0), .val (.int p1), .val (.int p2), .val (.int p3), .val (.int p4), .val (.int (f1 p0)), .val (.int (f1 p1)), .val (.int (f1 p2)), .val (.int (f1 p3)), o9, .val (.int cc), .val (.int dd), .val (.ref b5), .val (.ref b7), .val (.int (1 : Int32)), .val (.int (1 : Int32)), .val (.ref r37_r)] [(.ref b5)])) t
                refine XS.aload X37.here hx rfl (hb hby at_265) rfl rfl ?_
                exact kt
              refine OGo.callV X37 hx hZ (y := (⟨"com/example/harlow/harlow/core/topology/NodePair", "equals", "(Ljava/lang/Object;)Z"⟩ : MethodName)) (z := (⟨"com/example/harlow/harlow/core/topology/NodePair", "equals", "(Ljava/lang/Object;)Z"⟩ : MethodName)) hown (own_wd hw 26 rfl) (own_wd hw 27 rfl) (notFace_of_selects (args := #[]) (mvT hZ (own_wd hw 29 rfl))) (own_wd hw 29 rfl) (own_wd hw 28 rfl) (own_wd hw 11 rfl) (own_wd hw 30 rfl) (by decide) (rm6n l Z az hw [] b5 r37_r T37.heap n0 (Nat.le_trans Z0 KC37.1) P37_0) (W := 0) (by decide) (by decide) (((P6_0.ext E7).keep K8).keep K37) (g := (mkF m 267 #[.val (.int p0), .val (.int p1), .val (.int p2), .val (.int p3), .val (.int p4), .val (.int (f1 p0)), .val (.int (f1 p1)), .val (.int (f1 p2)), .val (.int (f1 p3)), o9, .val (.int cc), .val (.int dd), .val (.ref b5), .val (.ref b7), .val (.int (1 : Int32)), .val (.int (1 : Int32)), .val (.ref r37_r)] [(.ref r37_r), (.ref b5)])) rfl (by rw [hml]; rfl) (argsL := [(.ref r37_r)]) (rest := []) (lenOf pd_0_2 rfl) rfl (by show 2 * 0 + _ ≤ _; exact Nat.le_of_eq rfl) (hb hby at_267) rfl rfl (by decide) (by decide) ?_
              rintro _ T38 L38 X38 ⟨hv38, Nq38, e38⟩
              have N38 := Fr.app N37 Nq38
              rw [show f6n = (0 : Int32) from rfl] at hv38
              subst hv38
              show OGo _ _ _ _ _ _ _ (T38.setTop (mkF m 270 #[.val (.int p0), .val (.int p1), .val (.int p2), .val (.int p3), .val (.int p4), .val (.int (f1 p0)), .val (.int (f1 p1)), .val (.int (f1 p2)), .val (.int (f1 p3)), o9, .val (.int cc), .val (.int dd), .val (.ref b5), .val (.ref b7), .val (.int (1 : Int32)), .val (.int (1 : Int32)), .val (.ref r37_r)] [(.int (0 : Int32))]))
              refine OGo.step (F' := T38.setTop (mkF m 282 #[.val (.int p0), .val (.int p1), .val (.int p2), .val (.int p3), .val (.int p4), .val (.int (f1 p0)), .val (.int (f1 p1)), .val (.int (f1 p2)), .val (.int (f1 p3)), o9, .val (.int cc), .val (.int dd), .val (.ref b5), .val (.ref b7), .val (.int (1 : Int32)), .val (.int (1 : Int32)), .val (.ref r37_r)] [(.int (1 : Int32))])) (fun t kt => ?_) ?_
              · show Steps p.tables e below (T38.setTop (mkF m 270 #[.val (.int p0), .val (.int p1), .val (.int p2), .val (.int p3), .val (.int p4), .val (.int (f1 p0)), .val (.int (f1 p1)), .val (.int (f1 p2)), .val (.int (f1 p3)), o9, .val (.int cc), .val (.int dd), .val (.ref b5), .val (.ref b7), .val (.int (1 : Int32)), .val (.int (1 : Int32)), .val (.ref r37_r)] [(.int (0 : Int32))])) t
                refine XS.ifNo X38.here hx rfl (hb hby at_270) rfl ((if0 _ _).trans (teq (by decide : (0 : Int32) = (0 : Int32))).2) ?_
                show Steps p.tables e below (T38.setTop (mkF m 273 #[.val (.int p0), .val (.int p1), .val (.int p2), .val (.int p3), .val (.int p4), .val (.int (f1 p0)), .val (.int (f1 p1)), .val (.int (f1 p2)), .val (.int (f1 p3)), o9, .val (.int cc), .val (.int dd), .val (.ref b5), .val (.ref b7), .val (.int (1 : Int32)), .val (.int (1 : Int32)), .val (.ref r37_r)] [])) t
                refine XS.iconst X38.here hx rfl (hb hby at_273) ?_
                show Steps p.tables e below (T38.setTop (mkF m 274 #[.val (.int p0), .val (.int p1), .val (.int p2), .val (.int p3), .val (.int p4), .val (.int (f1 p0)), .val (.int (f1 p1)), .val (.int (f1 p2)), .val (.int (f1 p3)), o9, .val (.int cc), .val (.int dd), .val (.ref b5), .val (.ref b7), .val (.int (1 : Int32)), .val (.int (1 : Int32)), .val (.ref r37_r)] [(.int (1 : Int32))])) t
                refine XS.goto X38.here hx rfl (pc0 := 274) (pc' := 278) rfl (hb hby at_274) (by decide) (by decide) ?_
                show Steps p.tables e below (T38.setTop (mkF m 278 #[.val (.int p0), .val (.int p1), .val (.int p2), .val (.int p3), .val (.int p4), .val (.int (f1 p0)), .val (.int (f1 p1)), .val (.int (f1 p2)), .val (.int (f1 p3)), o9, .val (.int cc), .val (.int dd), .val (.ref b5), .val (.ref b7), .val (.int (1 : Int32)), .val (.int (1 : Int32)), .val (.ref r37_r)] [(.int (1 : Int32))])) t
                refine XS.istore X38.here hx rfl (hb hby at_278) rfl (l' := #[.val (.int p0), .val (.int p1), .val (.int p2), .val (.int p3), .val (.int p4), .val (.int (f1 p0)), .val (.int (f1 p1)), .val (.int (f1 p2)), .val (.int (f1 p3)), o9, .val (.int cc), .val (.int dd), .val (.ref b5), .val (.ref b7), .val (.int (1 : Int32)), .val (.int (1 : Int32)), .val (.ref r37_r)]) rfl ?_
                show Steps p.tables e below (T38.setTop (mkF m 280 #[.val (.int p0), .val (.int p1), .val (.int p2), .val (.int p3), .val (.int p4), .val (.int (f1 p0)), .val (.int (f1 p1)), .val (.int (f1 p2)), .val (.int (f1 p3)), o9, .val (.int cc), .val (.int dd), .val (.ref b5), .val (.ref b7), .val (.int (1 : Int32)), .val (.int (1 : Int32)), .val (.ref r37_r)] [])) t
                refine XS.iload X38.here hx rfl (hb hby at_280) rfl ?_
                exact kt
              refine OGo.retZ X38 hx hlk (t := .boolean) (z' := (1 : Int32)) hret (by simp) (hb hby at_282) rfl ?_ (by decide) (by decide)
              show Q0 Z p0 p1 p2 p3 p4 w_high w_cache h0 n0 _ T38.heap _
              rw [e38]
              exact ⟨rfl, N38, KC37⟩
            · refine OGo.step (F' := T8.setTop (mkF m 162 #[.val (.int p0), .val (.int p1), .val (.int p2), .val (.int p3), .val (.int p4), .val (.int (f1 p0)), .val (.int (f1 p1)), .val (.int (f1 p2)), .val (.int (f1 p3)), o9, .val (.int cc), .val (.int dd), .val (.ref b5), .val (.ref b7), .unset, .unset, .unset] [])) (fun t kt => ?_) ?_
              · show Steps p.tables e below (T8.setTop (mkF m 155 #[.val (.int p0), .val (.int p1), .val (.int p2), .val (.int p3), .val (.int p4), .val (.int (f1 p0)), .val (.int (f1 p1)), .val (.int (f1 p2)), .val (.int (f1 p3)), o9, .val (.int cc), .val (.int dd), .val (.ref b5), .val (.ref b7), .unset, .unset, .unset] [(.int cc), (.int (f1 p1))])) t
                refine XS.icmpYes X8.here hx rfl (pc0 := 155) (pc' := 162) rfl (hb hby at_155) rfl (feq hc155).2 (by decide) (by decide) ?_
                exact kt
              refine OGo.step (F' := T8.setTop (mkF m 169 #[.val (.int p0), .val (.int p1), .val (.int p2), .val (.int p3), .val (.int p4), .val (.int (f1 p0)), .val (.int (f1 p1)), .val (.int (f1 p2)), .val (.int (f1 p3)), o9, .val (.int cc), .val (.int dd), .val (.ref b5), .val (.ref b7), .val (.int (0 : Int32)), .unset, .unset] [(.ref b7), (.ref b5)])) (fun t kt => ?_) ?_
              · show Steps p.tables e below (T8.setTop (mkF m 162 #[.val (.int p0), .val (.int p1), .val (.int p2), .val (.int p3), .val (.int p4), .val (.int (f1 p0)), .val (.int (f1 p1)), .val (.int (f1 p2)), .val (.int (f1 p3)), o9, .val (.int cc), .val (.int dd), .val (.ref b5), .val (.ref b7), .unset, .unset, .unset] [])) t
                refine XS.iconst X8.here hx rfl (hb hby at_162) ?_
                show Steps p.tables e below (T8.setTop (mkF m 163 #[.val (.int p0), .val (.int p1), .val (.int p2), .val (.int p3), .val (.int p4), .val (.int (f1 p0)), .val (.int (f1 p1)), .val (.int (f1 p2)), .val (.int (f1 p3)), o9, .val (.int cc), .val (.int dd), .val (.ref b5), .val (.ref b7), .unset, .unset, .unset] [(.int (0 : Int32))])) t
                refine XS.istore X8.here hx rfl (hb hby at_163) rfl (l' := #[.val (.int p0), .val (.int p1), .val (.int p2), .val (.int p3), .val (.int p4), .val (.int (f1 p0)), .val (.int (f1 p1)), .val (.int (f1 p2)), .val (.int (f1 p3)), o9, .val (.int cc), .val (.int dd), .val (.ref b5), .val (.ref b7), .val (.int (0 : Int32)), .unset, .unset]) rfl ?_
                show Steps p.tables e below (T8.setTop (mkF m 165 #[.val (.int p0), .val (.int p1), .val (.int p2), .val (.int p3), .val (.int p4), .val (.int (f1 p0)), .val (.int (f1 p1)), .val (.int (f1 p2)), .val (.int (f1 p3)), o9, .val (.int cc), .val (.int dd), .val (.ref b5), .val (.ref b7), .val (.int (0 : Int32)), .unset, .unset] [])) t
                refine XS.aload X8.here hx rfl (hb hby at_165) rfl rfl ?_
                show Steps p.tables e below (T8.setTop (mkF m 167 #[.val (.int p0), .val (.int p1), .val (.int p2), .val (.int p3), .val (.int p4), .val (.int (f1 p0)), .val (.int (f1 p1)), .val (.int (f1 p2)), .val (.int (f1 p3)), o9, .val (.int cc), .val (.int dd), .val (.ref b5), .val (.ref b7), .val (.int (0 : Int32)), .unset, .unset] [(.ref b5)])) t
                refine XS.aload X8.here hx rfl (hb hby at_167) rfl rfl ?_
                exact kt
              refine OGo.callV X8 hx hZ (y := (⟨"com/example/harlow/harlow/core/topology/NodePair", "equals", "(Ljava/lang/Object;)Z"⟩ : MethodName)) (z := (⟨"com/example/harlow/harlow/core/topology/NodePair", "equals", "(Ljava/lang/Object;)Z"⟩ : MethodName)) hown (own_wd hw 26 rfl) (own_wd hw 27 rfl) (notFace_of_selects (args := #[]) (mvT hZ (own_wd hw 29 rfl))) (own_wd hw 29 rfl) (own_wd hw 28 rfl) (own_wd hw 11 rfl) (own_wd hw 30 rfl) (by decide) (rm6 l Z az hw [] b5 b7 (f5 cc dd) (f5 (f1 p0) (f1 p1)) (f2 cc dd) (f2 (f1 p0) (f1 p1)) T8.heap n0 (Nat.le_trans Z0 KC8.1) P8_0 P8_1 ((P6_1.ext E7).keep K8 (ninS (Nat.ne_of_lt (Nat.lt_of_lt_of_le P6_0.lt (Nat.le_of_eq g7.symm))) nin0)) P8_2 ((P6_2.ext E7).keep K8 (ninS (Nat.ne_of_lt (Nat.lt_of_lt_of_le P6_0.lt (Nat.le_of_eq g7.symm))) nin0))) (W := 0) (by decide) (by decide) ((P6_0.ext E7).keep K8) (g := (mkF m 169 #[.val (.int p0), .val (.int p1), .val (.int p2), .val (.int p3), .val (.int p4), .val (.int (f1 p0)), .val (.int (f1 p1)), .val (.int (f1 p2)), .val (.int (f1 p3)), o9, .val (.int cc), .val (.int dd), .val (.ref b5), .val (.ref b7), .val (.int (0 : Int32)), .unset, .unset] [(.ref b7), (.ref b5)])) rfl (by rw [hml]; rfl) (argsL := [(.ref b7)]) (rest := []) (lenOf pd_0_2 rfl) rfl (by show 2 * 0 + _ ≤ _; exact Nat.le_of_eq rfl) (hb hby at_169) rfl rfl (by decide) (by decide) ?_
              rintro _ T39 L39 X39 ⟨rfl, Nq39, e39⟩
              have N39 := Fr.app N8 Nq39
              show OGo _ _ _ _ _ _ _ (T39.setTop (mkF m 172 #[.val (.int p0), .val (.int p1), .val (.int p2), .val (.int p3), .val (.int p4), .val (.int (f1 p0)), .val (.int (f1 p1)), .val (.int (f1 p2)), .val (.int (f1 p3)), o9, .val (.int cc), .val (.int dd), .val (.ref b5), .val (.ref b7), .val (.int (0 : Int32)), .unset, .unset] [(.int (f6 (f5 cc dd) (f5 (f1 p0) (f1 p1)) (f2 cc dd) (f2 (f1 p0) (f1 p1))))]))
              refine OGo.step (F' := T39.setTop (mkF m 193 #[.val (.int p0), .val (.int p1), .val (.int p2), .val (.int p3), .val (.int p4), .val (.int (f1 p0)), .val (.int (f1 p1)), .val (.int (f1 p2)), .val (.int (f1 p3)), o9, .val (.int cc), .val (.int dd), .val (.ref b5), .val (.ref b7), .val (.int (0 : Int32)), .val (.int (1 : Int32)), .unset] [(.ref b5), (.ref b7)])) (fun t kt => ?_) ?_
              · show Steps p.tables e below (T39.setTop (mkF m 172 #[.val (.int p0), .val (.int p1), .val (.int p2), .val (.int p3), .val (.int p4), .val (.int (f1 p0)), .val (.int (f1 p1)), .val (.int (f1 p2)), .val (.int (f1 p3)), o9, .val (.int cc), .val (.int dd), .val (.ref b5), .val (.ref b7), .val (.int (0 : Int32)), .unset, .unset] [(.int (f6 (f5 cc dd) (f5 (f1 p0) (f1 p1)) (f2 cc dd) (f2 (f1 p0) (f1 p1))))])) t
                refine XS.iload X39.here hx rfl (hb hby at_172) rfl ?_
                show Steps p.tables e below (T39.setTop (mkF m 174 #[.val (.int p0), .val (.int p1), .val (.int p2), .val (.int p3), .val (.int p4), .val (.int (f1 p0)), .val (.int (f1 p1)), .val (.int (f1 p2)), .val (.int (f1 p3)), o9, .val (.int cc), .val (.int dd), .val (.ref b5), .val (.ref b7), .val (.int (0 : Int32)), .unset, .unset] [(.int (0 : Int32)), (.int (f6 (f5 cc dd) (f5 (f1 p0) (f1 p1)) (f2 cc dd) (f2 (f1 p0) (f1 p1))))])) t
                refine XS.icmpNo X39.here hx rfl (hb hby at_174) rfl (teq (own_eq0 (fun q => q.elim (fun z => hc134 z.1) (fun z => hc155 z.2)))).2 ?_
                show Steps p.tables e below (T39.setTop (mkF m 177 #[.val (.int p0), .val (.int p1), .val (.int p2), .val (.int p3), .val (.int p4), .val (.int (f1 p0)), .val (.int (f1 p1)), .val (.int (f1 p2)), .val (.int (f1 p3)), o9, .val (.int cc), .val (.int dd), .val (.ref b5), .val (.ref b7), .val (.int (0 : Int32)), .unset, .unset] [])) t
                refine XS.iconst X39.here hx rfl (hb hby at_177) ?_
                show Steps p.tables e below (T39.setTop (mkF m 178 #[.val (.int p0), .val (.int p1), .val (.int p2), .val (.int p3), .val (.int p4), .val (.int (f1 p0)), .val (.int (f1 p1)), .val (.int (f1 p2)), .val (.int (f1 p3)), o9, .val (.int cc), .val (.int dd), .val (.ref b5), .val (.ref b7), .val (.int (0 : Int32)), .unset, .unset] [(.int (1 : Int32))])) t
                refine XS.goto X39.here hx rfl (pc0 := 178) (pc' := 182) rfl (hb hby at_178) (by decide) (by decide) ?_
                show Steps p.tables e below (T39.setTop (mkF m 182 #[.val (.int p0), .val (.int p1), .val (.int p2), .val (.int p3), .val (.int p4), .val (.int (f1 p0)), .val (.int (f1 p1)), .val (.int (f1 p2)), .val (.int (f1 p3)), o9, .val (.int cc), .val (.int dd), .val (.ref b5), .val (.ref b7), .val (.int (0 : Int32)), .unset, .unset] [(.int (1 : Int32))])) t
                refine XS.istore X39.here hx rfl (hb hby at_182) rfl (l' := #[.val (.int p0), .val (.int p1), .val (.int p2), .val (.int p3), .val (.int p4), .val (.int (f1 p0)), .val (.int (f1 p1)), .val (.int (f1 p2)), .val (.int (f1 p3)), o9, .val (.int cc), .val (.int dd), .val (.ref b5), .val (.ref b7), .val (.int (0 : Int32)), .val (.int (1 : Int32)), .unset]) rfl ?_
                show Steps p.tables e below (T39.setTop (mkF m 184 #[.val (.int p0), .val (.int p1), .val (.int p2), .val (.int p3), .val (.int p4), .val (.int (f1 p0)), .val (.int (f1 p1)), .val (.int (f1 p2)), .val (.int (f1 p3)), o9, .val (.int cc), .val (.int dd), .val (.ref b5), .val (.ref b7), .val (.int (0 : Int32)), .val (.int (1 : Int32)), .unset] [])) t
                refine XS.iload X39.here hx rfl (hb hby at_184) rfl ?_
                show Steps p.tables e below (T39.setTop (mkF m 186 #[.val (.int p0), .val (.int p1), .val (.int p2), .val (.int p3), .val (.int p4), .val (.int (f1 p0)), .val (.int (f1 p1)), .val (.int (f1 p2)), .val (.int (f1 p3)), o9, .val (.int cc), .val (.int dd), .val (.ref b5), .val (.ref b7), .val (.int (0 : Int32)), .val (.int (1 : Int32)), .unset] [(.int (1 : Int32))])) t
                refine XS.ifNo X39.here hx rfl (hb hby at_186) rfl ((if0 _ _).trans (feq (by decide : ¬ ((1 : Int32) = (0 : Int32)))).1) ?_
                show Steps p.tables e below (T39.setTop (mkF m 189 #[.val (.int p0), .val (.int p1), .val (.int p2), .val (.int p3), .val (.int p4), .val (.int (f1 p0)), .val (.int (f1 p1)), .val (.int (f1 p2)), .val (.int (f1 p3)), o9, .val (.int cc), .val (.int dd), .val (.ref b5), .val (.ref b7), .val (.int (0 : Int32)), .val (.int (1 : Int32)), .unset] [])) t
                refine XS.aload X39.here hx rfl (hb hby at_189) rfl rfl ?_
                show Steps p.tables e below (T39.setTop (mkF m 191 #[.val (.int p0), .val (.int p1), .val (.int p2), .val (.int p3), .val (.int p4), .val (.int (f1 p0)), .val (.int (f1 p1)), .val (.int (f1 p2)), .val (.int (f1 p3)), o9, .val (.int cc), .val (.int dd), .val (.ref b5), .val (.ref b7), .val (.int (0 : Int32)), .val (.int (1 : Int32)), .unset] [(.ref b7)])) t
                refine XS.aload X39.here hx rfl (hb hby at_191) rfl rfl ?_
                exact kt
              refine OGo.callV X39 hx hZ (y := (⟨"com/example/harlow/harlow/core/topology/NodePair", "equals", "(Ljava/lang/Object;)Z"⟩ : MethodName)) (z := (⟨"com/example/harlow/harlow/core/topology/NodePair", "equals", "(Ljava/lang/Object;)Z"⟩ : MethodName)) hown (own_wd hw 26 rfl) (own_wd hw 27 rfl) (notFace_of_selects (args := #[]) (mvT hZ (own_wd hw 29 rfl))) (own_wd hw 29 rfl) (own_wd hw 28 rfl) (own_wd hw 11 rfl) (own_wd hw 30 rfl) (by decide) (rm6 l Z az hw [] b7 b5 (f5 (f1 p0) (f1 p1)) (f5 cc dd) (f2 (f1 p0) (f1 p1)) (f2 cc dd) T8.heap n0 (Nat.le_trans Z0 KC8.1) ((P6_0.ext E7).keep K8) ((P6_1.ext E7).keep K8 (ninS (Nat.ne_of_lt (Nat.lt_of_lt_of_le P6_0.lt (Nat.le_of_eq g7.symm))) nin0)) P8_1 ((P6_2.ext E7).keep K8 (ninS (Nat.ne_of_lt (Nat.lt_of_lt_of_le P6_0.lt (Nat.le_of_eq g7.symm))) nin0)) P8_2) (W := 0) (by decide) (by decide) P8_0 (g := (mkF m 193 #[.val (.int p0), .val (.int p1), .val (.int p2), .val (.int p3), .val (.int p4), .val (.int (f1 p0)), .val (.int (f1 p1)), .val (.int (f1 p2)), .val (.int (f1 p3)), o9, .val (.int cc), .val (.int dd), .val (.ref b5), .val (.ref b7), .val (.int (0 : Int32)), .val (.int (1 : Int32)), .unset] [(.ref b5), (.ref b7)])) rfl (by rw [hml]; rfl) (argsL := [(.ref b5)]) (rest := []) (lenOf pd_0_2 rfl) rfl (by show 2 * 0 + _ ≤ _; exact Nat.le_of_eq rfl) (hb hby at_193) rfl e39 (by decide) (by decide) ?_
              rintro _ T40 L40 X40 ⟨rfl, Nq40, e40⟩
              have N40 := Fr.app N39 Nq40
              show OGo _ _ _ _ _ _ _ (T40.setTop (mkF m 196 #[.val (.int p0), .val (.int p1), .val (.int p2), .val (.int p3), .val (.int p4), .val (.int (f1 p0)), .val (.int (f1 p1)), .val (.int (f1 p2)), .val (.int (f1 p3)), o9, .val (.int cc), .val (.int dd), .val (.ref b5), .val (.ref b7), .val (.int (0 : Int32)), .val (.int (1 : Int32)), .unset] [(.int (f6 (f5 (f1 p0) (f1 p1)) (f5 cc dd) (f2 (f1 p0) (f1 p1)) (f2 cc dd)))]))
              refine OGo.step (F' := T40.setTop (mkF m 217 #[.val (.int p0), .val (.int p1), .val (.int p2), .val (.int p3), .val (.int p4), .val (.int (f1 p0)), .val (.int (f1 p1)), .val (.int (f1 p2)), .val (.int (f1 p3)), o9, .val (.int cc), .val (.int dd), .val (.ref b5), .val (.ref b7), .val (.int (0 : Int32)), .val (.int (1 : Int32)), .unset] [(.ref b5), (.ref b5)])) (fun t kt => ?_) ?_
              · show Steps p.tables e below (T40.setTop (mkF m 196 #[.val (.int p0), .val (.int p1), .val (.int p2), .val (.int p3), .val (.int p4), .val (.int (f1 p0)), .val (.int (f1 p1)), .val (.int (f1 p2)), .val (.int (f1 p3)), o9, .val (.int cc), .val (.int dd), .val (.ref b5), .val (.ref b7), .val (.int (0 : Int32)), .val (.int (1 : Int32)), .unset] [(.int (f6 (f5 (f1 p0) (f1 p1)) (f5 cc dd) (f2 (f1 p0) (f1 p1)) (f2 cc dd)))])) t
                refine XS.iload X40.here hx rfl (hb hby at_196) rfl ?_
                show Steps p.tables e below (T40.setTop (mkF m 198 #[.val (.int p0), .val (.int p1), .val (.int p2), .val (.int p3), .val (.int p4), .val (.int (f1 p0)), .val (.int (f1 p1)), .val (.int (f1 p2)), .val (.int (f1 p3)), o9, .val (.int cc), .val (.int dd), .val (.ref b5), .val (.ref b7), .val (.int (0 : Int32)), .val (.int (1 : Int32)), .unset] [(.int (0 : Int32)), (.int (f6 (f5 (f1 p0) (f1 p1)) (f5 cc dd) (f2 (f1 p0) (f1 p1)) (f2 cc dd)))])) t
                refine XS.icmpNo X40.here hx rfl (hb hby at_198) rfl (teq ((own_com _ _ _ _).trans (own_eq0 (fun q => q.elim (fun z => hc134 z.1) (fun z => hc155 z.2))))).2 ?_
                show Steps p.tables e below (T40.setTop (mkF m 201 #[.val (.int p0), .val (.int p1), .val (.int p2), .val (.int p3), .val (.int p4), .val (.int (f1 p0)), .val (.int (f1 p1)), .val (.int (f1 p2)), .val (.int (f1 p3)), o9, .val (.int cc), .val (.int dd), .val (.ref b5), .val (.ref b7), .val (.int (0 : Int32)), .val (.int (1 : Int32)), .unset] [])) t
                refine XS.iconst X40.here hx rfl (hb hby at_201) ?_
                show Steps p.tables e below (T40.setTop (mkF m 202 #[.val (.int p0), .val (.int p1), .val (.int p2), .val (.int p3), .val (.int p4), .val (.int (f1 p0)), .val (.int (f1 p1)), .val (.int (f1 p2)), .val (.int (f1 p3)), o9, .val (.int cc), .val (.int dd), .val (.ref b5), .val (.ref b7), .val (.int (0 : Int32)), .val (.int (1 : Int32)), .unset] [(.int (1 : Int32))])) t
                refine XS.goto X40.here hx rfl (pc0 := 202) (pc' := 206) rfl (hb hby at_202) (by decide) (by decide) ?_
                show Steps p.tables e below (T40.setTop (mkF m 206 #[.val (.int p0), .val (.int p1), .val (.int p2), .val (.int p3), .val (.int p4), .val (.int (f1 p0)), .val (.int (f1 p1)), .val (.int (f1 p2)), .val (.int (f1 p3)), o9, .val (.int cc), .val (.int dd), .val (.ref b5), .val (.ref b7), .val (.int (0 : Int32)), .val (.int (1 : Int32)), .unset] [(.int (1 : Int32))])) t
                refine XS.istore X40.here hx rfl (hb hby at_206) rfl (l' := #[.val (.int p0), .val (.int p1), .val (.int p2), .val (.int p3), .val (.int p4), .val (.int (f1 p0)), .val (.int (f1 p1)), .val (.int (f1 p2)), .val (.int (f1 p3)), o9, .val (.int cc), .val (.int dd), .val (.ref b5), .val (.ref b7), .val (.int (0 : Int32)), .val (.int (1 : Int32)), .unset]) rfl ?_
                show Steps p.tables e below (T40.setTop (mkF m 208 #[.val (.int p0), .val (.int p1), .val (.int p2), .val (.int p3), .val (.int p4), .val (.int (f1 p0)), .val (.int (f1 p1)), .val (.int (f1 p2)), .val (.int (f1 p3)), o9, .val (.int cc), .val (.int dd), .val (.ref b5), .val (.ref b7), .val (.int (0 : Int32)), .val (.int (1 : Int32)), .unset] [])) t
                refine XS.iload X40.here hx rfl (hb hby at_208) rfl ?_
                show Steps p.tables e below (T40.setTop (mkF m 210 #[.val (.int p0), .val (.int p1), .val (.int p2), .val (.int p3), .val (.int p4), .val (.int (f1 p0)), .val (.int (f1 p1)), .val (.int (f1 p2)), .val (.int (f1 p3)), o9, .val (.int cc), .val (.int dd), .val (.ref b5), .val (.ref b7), .val (.int (0 : Int32)), .val (.int (1 : Int32)), .unset] [(.int (1 : Int32))])) t
                refine XS.ifNo X40.here hx rfl (hb hby at_210) rfl ((if0 _ _).trans (feq (by decide : ¬ ((1 : Int32) = (0 : Int32)))).1) ?_
                show Steps p.tables e below (T40.setTop (mkF m 213 #[.val (.int p0), .val (.int p1), .val (.int p2), .val (.int p3), .val (.int p4), .val (.int (f1 p0)), .val (.int (f1 p1)), .val (.int (f1 p2)), .val (.int (f1 p3)), o9, .val (.int cc), .val (.int dd), .val (.ref b5), .val (.ref b7), .val (.int (0 : Int32)), .val (.int (1 : Int32)), .unset] [])) t
                refine XS.aload X40.here hx rfl (hb hby at_213) rfl rfl ?_
                show Steps p.tables e below (T40.setTop (mkF m 215 #[.val (.int p0), .val (.int p1), .val (.int p2), .val (.int p3), .val (.int p4), .val (.int (f1 p0)), .val (.int (f1 p1)), .val (.int (f1 p2)), .val (.int (f1 p3)), o9, .val (.int cc), .val (.int dd), .val (.ref b5), .val (.ref b7), .val (.int (0 : Int32)), .val (.int (1 : Int32)), .unset] [(.ref b5)])) t
                refine XS.aload X40.here hx rfl (hb hby at_215) rfl rfl ?_
                exact kt
              refine OGo.callV X40 hx hZ (y := (⟨"com/example/harlow/harlow/core/topology/NodePair", "equals", "(Ljava/lang/Object;)Z"⟩ : MethodName)) (z := (⟨"com/example/harlow/harlow/core/topology/NodePair", "equals", "(Ljava/lang/Object;)Z"⟩ : MethodName)) hown (own_wd hw 26 rfl) (own_wd hw 27 rfl) (notFace_of_selects (args := #[]) (mvT hZ (own_wd hw 29 rfl))) (own_wd hw 29 rfl) (own_wd hw 28 rfl) (own_wd hw 11 rfl) (own_wd hw 30 rfl) (by decide) (rm6 l Z az hw [] b5 b5 (f5 (f1 p0) (f1 p1)) (f5 (f1 p0) (f1 p1)) (f2 (f1 p0) (f1 p1)) (f2 (f1 p0) (f1 p1)) T8.heap n0 (Nat.le_trans Z0 KC8.1) ((P6_0.ext E7).keep K8) ((P6_1.ext E7).keep K8 (ninS (Nat.ne_of_lt (Nat.lt_of_lt_of_le P6_0.lt (Nat.le_of_eq g7.symm))) nin0)) ((P6_1.ext E7).keep K8 (ninS (Nat.ne_of_lt (Nat.lt_of_lt_of_le P6_0.lt (Nat.le_of_eq g7.symm))) nin0)) ((P6_2.ext E7).keep K8 (ninS (Nat.ne_of_lt (Nat.lt_of_lt_of_le P6_0.lt (Nat.le_of_eq g7.symm))) nin0)) ((P6_2.ext E7).keep K8 (ninS (Nat.ne_of_lt (Nat.lt_of_lt_of_le P6_0.lt (Nat.le_of_eq g7.symm))) nin0))) (W := 0) (by decide) (by decide) ((P6_0.ext E7).keep K8) (g := (mkF m 217 #[.val (.int p0), .val (.int p1), .val (.int p2), .val (.int p3), .val (.int p4), .val (.int (f1 p0)), .val (.int (f1 p1)), .val (.int (f1 p2)), .val (.int (f1 p3)), o9, .val (.int cc), .val (.int dd), .val (.ref b5), .val (.ref b7), .val (.int (0 : Int32)), .val (.int (1 : Int32)), .unset] [(.ref b5), (.ref b5)])) rfl (by rw [hml]; rfl) (argsL := [(.ref b5)]) (rest := []) (lenOf pd_0_2 rfl) rfl (by show 2 * 0 + _ ≤ _; exact Nat.le_of_eq rfl) (hb hby at_217) rfl e40 (by decide) (by decide) ?_
              rintro _ T41 L41 X41 ⟨rfl, Nq41, e41⟩
              have N41 := Fr.app N40 Nq41
              show OGo _ _ _ _ _ _ _ (T41.setTop (mkF m 220 #[.val (.int p0), .val (.int p1), .val (.int p2), .val (.int p3), .val (.int p4), .val (.int (f1 p0)), .val (.int (f1 p1)), .val (.int (f1 p2)), .val (.int (f1 p3)), o9, .val (.int cc), .val (.int dd), .val (.ref b5), .val (.ref b7), .val (.int (0 : Int32)), .val (.int (1 : Int32)), .unset] [(.int (f6 (f5 (f1 p0) (f1 p1)) (f5 (f1 p0) (f1 p1)) (f2 (f1 p0) (f1 p1)) (f2 (f1 p0) (f1 p1))))]))
              refine OGo.step (F' := T41.setTop (mkF m 238 #[.val (.int p0), .val (.int p1), .val (.int p2), .val (.int p3), .val (.int p4), .val (.int (f1 p0)), .val (.int (f1 p1)), .val (.int (f1 p2)), .val (.int (f1 p3)), o9, .val (.int cc), .val (.int dd), .val (.ref b5), .val (.ref b7), .val (.int (0 : Int32)), .val (.int (1 : Int32)), .unset] [.null, (.ref b5)])) (fun t kt => ?_) ?_
              · show Steps p.tables e below (T41.setTop (mkF m 220 #[.val (.int p0), .val (.int p1), .val (.int p2), .val (.int p3), .val (.int p4), .val (.int (f1 p0)), .val (.int (f1 p1)), .val (.int (f1 p2)), .val (.int (f1 p3)), o9, .val (.int cc), .val (.int dd), .val (.ref b5), .val (.ref b7), .val (.int (0 : Int32)), .val (.int (1 : Int32)), .unset] [(.int (f6 (f5 (f1 p0) (f1 p1)) (f5 (f1 p0) (f1 p1)) (f2 (f1 p0) (f1 p1)) (f2 (f1 p0) (f1 p1))))])) t
                refine XS.ifNo X41.here hx rfl (hb hby at_220) rfl ((if0 _ _).trans (feq (own_refl _ _)).1) ?_
                show Steps p.tables e below (T41.setTop (mkF m 223 #[.val (.int p0), .val (.int p1), .val (.int p2), .val (.int p3), .val (.int p4), .val (.int (f1 p0)), .val (.int (f1 p1)), .val (.int (f1 p2)), .val (.int (f1 p3)), o9, .val (.int cc), .val (.int dd), .val (.ref b5), .val (.ref b7), .val (.int (0 : Int32)), .val (.int (1 : Int32)), .unset] [])) t
                refine XS.iconst X41.here hx rfl (hb hby at_223) ?_
                show Steps p.tables e below (T41.setTop (mkF m 224 #[.val (.int p0), .val (.int p1), .val (.int p2), .val (.int p3), .val (.int p4), .val (.int (f1 p0)), .val (.int (f1 p1)), .val (.int (f1 p2)), .val (.int (f1 p3)), o9, .val (.int cc), .val (.int dd), .val (.ref b5), .val (.ref b7), .val (.int (0 : Int32)), .val (.int (1 : Int32)), .unset] [(.int (1 : Int32))])) t
                refine XS.goto X41.here hx rfl (pc0 := 224) (pc' := 228) rfl (hb hby at_224) (by decide) (by decide) ?_
                show Steps p.tables e below (T41.setTop (mkF m 228 #[.val (.int p0), .val (.int p1), .val (.int p2), .val (.int p3), .val (.int p4), .val (.int (f1 p0)), .val (.int (f1 p1)), .val (.int (f1 p2)), .val (.int (f1 p3)), o9, .val (.int cc), .val (.int dd), .val (.ref b5), .val (.ref b7), .val (.int (0 : Int32)), .val (.int (1 : Int32)), .unset] [(.int (1 : Int32))])) t
                refine XS.istore X41.here hx rfl (hb hby at_228) rfl (l' := #[.val (.int p0), .val (.int p1), .val (.int p2), .val (.int p3), .val (.int p4), .val (.int (f1 p0)), .val (.int (f1 p1)), .val (.int (f1 p2)), .val (.int (f1 p3)), o9, .val (.int cc), .val (.int dd), .val (.ref b5), .val (.ref b7), .val (.int (0 : Int32)), .val (.int (1 : Int32)), .unset]) rfl ?_
                show Steps p.tables e below (T41.setTop (mkF m 230 #[.val (.int p0), .val (.int p1), .val (.int p2), .val (.int p3), .val (.int p4), .val (.int (f1 p0)), .val (.int (f1 p1)), .val (.int (f1 p2)), .val (.int (f1 p3)), o9, .val (.int cc), .val (.int dd), .val (.ref b5), .val (.ref b7), .val (.int (0 : Int32)), .val (.int (1 : Int32)), .unset] [])) t
                refine XS.iload X41.here hx rfl (hb hby at_230) rfl ?_
                show Steps p.tables e below (T41.setTop (mkF m 232 #[.val (.int p0), .val (.int p1), .val (.int p2), .val (.int p3), .val (.int p4), .val (.int (f1 p0)), .val (.int (f1 p1)), .val (.int (f1 p2)), .val (.int (f1 p3)), o9, .val (.int cc), .val (.int dd), .val (.ref b5), .val (.ref b7), .val (.int (0 : Int32)), .val (.int (1 : Int32)), .unset] [(.int (1 : Int32))])) t
                refine XS.ifNo X41.here hx rfl (hb hby at_232) rfl ((if0 _ _).trans (feq (by decide : ¬ ((1 : Int32) = (0 : Int32)))).1) ?_
                show Steps p.tables e below (T41.setTop (mkF m 235 #[.val (.int p0), .val (.int p1), .val (.int p2), .val (.int p3), .val (.int p4), .val (.int (f1 p0)), .val (.int (f1 p1)), .val (.int (f1 p2)), .val (.int (f1 p3)), o9, .val (.int cc), .val (.int dd), .val (.ref b5), .val (.ref b7), .val (.int (0 : Int32)), .val (.int (1 : Int32)), .unset] [])) t
                refine XS.aload X41.here hx rfl (hb hby at_235) rfl rfl ?_
                show Steps p.tables e below (T41.setTop (mkF m 237 #[.val (.int p0), .val (.int p1), .val (.int p2), .val (.int p3), .val (.int p4), .val (.int (f1 p0)), .val (.int (f1 p1)), .val (.int (f1 p2)), .val (.int (f1 p3)), o9, .val (.int cc), .val (.int dd), .val (.ref b5), .val (.ref b7), .val (.int (0 : Int32)), .val (.int (1 : Int32)), .unset] [(.ref b5)])) t
                refine XS.aconstNull X41.here hx rfl (hb hby at_237) ?_
                exact kt
              refine OGo.callV X41 hx hZ (y := (⟨"com/example/harlow/harlow/core/topology/NodePair", "equals", "(Ljava/lang/Object;)Z"⟩ : MethodName)) (z := (⟨"com/example/harlow/harlow/core/topology/NodePair", "equals", "(Ljava/lang/Object;)Z"⟩ : MethodName)) hown (own_wd hw 26 rfl) (own_wd hw 27 rfl) (notFace_of_selects (args := #[]) (mvT hZ (own_wd hw 29 rfl))) (own_wd hw 29 rfl) (own_wd hw 28 rfl) (own_wd hw 11 rfl) (own_wd hw 30 rfl) (by decide) (rm6z l Z az hw [] b5 T8.heap n0 (Nat.le_trans Z0 KC8.1)) (W := 0) (by decide) (by decide) ((P6_0.ext E7).keep K8) (g := (mkF m 238 #[.val (.int p0), .val (.int p1), .val (.int p2), .val (.int p3), .val (.int p4), .val (.int (f1 p0)), .val (.int (f1 p1)), .val (.int (f1 p2)), .val (.int (f1 p3)), o9, .val (.int cc), .val (.int dd), .val (.ref b5), .val (.ref b7), .val (.int (0 : Int32)), .val (.int (1 : Int32)), .unset] [.null, (.ref b5)])) rfl (by rw [hml]; rfl) (argsL := [.null]) (rest := []) (lenOf pd_0_2 rfl) rfl (by show 2 * 0 + _ ≤ _; exact Nat.le_of_eq rfl) (hb hby at_238) rfl e41 (by decide) (by decide) ?_
              rintro _ T42 L42 X42 ⟨hv42, Nq42, e42⟩
              have N42 := Fr.app N41 Nq42
              rw [show f6z = (0 : Int32) from rfl] at hv42
              subst hv42
              show OGo _ _ _ _ _ _ _ (T42.setTop (mkF m 241 #[.val (.int p0), .val (.int p1), .val (.int p2), .val (.int p3), .val (.int p4), .val (.int (f1 p0)), .val (.int (f1 p1)), .val (.int (f1 p2)), .val (.int (f1 p3)), o9, .val (.int cc), .val (.int dd), .val (.ref b5), .val (.ref b7), .val (.int (0 : Int32)), .val (.int (1 : Int32)), .unset] [(.int (0 : Int32))]))
              refine OGo.step (F' := T42.setTop (mkF m 253 #[.val (.int p0), .val (.int p1), .val (.int p2), .val (.int p3), .val (.int p4), .val (.int (f1 p0)), .val (.int (f1 p1)), .val (.int (f1 p2)), .val (.int (f1 p3)), o9, .val (.int cc), .val (.int dd), .val (.ref b5), .val (.ref b7), .val (.int (0 : Int32)), .val (.int (1 : Int32)), .unset] [(.int (f1 p0))])) (fun t kt => ?_) ?_
              · show Steps p.tables e below (T42.setTop (mkF m 241 #[.val (.int p0), .val (.int p1), .val (.int p2), .val (.int p3), .val (.int p4), .val (.int (f1 p0)), .val (.int (f1 p1)), .val (.int (f1 p2)), .val (.int (f1 p3)), o9, .val (.int cc), .val (.int dd), .val (.ref b5), .val (.ref b7), .val (.int (0 : Int32)), .val (.int (1 : Int32)), .unset] [(.int (0 : Int32))])) t
                refine XS.ifNo X42.here hx rfl (hb hby at_241) rfl ((if0 _ _).trans (teq (by decide : (0 : Int32) = (0 : Int32))).2) ?_
                show Steps p.tables e below (T42.setTop (mkF m 244 #[.val (.int p0), .val (.int p1), .val (.int p2), .val (.int p3), .val (.int p4), .val (.int (f1 p0)), .val (.int (f1 p1)), .val (.int (f1 p2)), .val (.int (f1 p3)), o9, .val (.int cc), .val (.int dd), .val (.ref b5), .val (.ref b7), .val (.int (0 : Int32)), .val (.int (1 : Int32)), .unset] [])) t
                refine XS.iconst X42.here hx rfl (hb hby at_244) ?_
                show Steps p.tables e below (T42.setTop (mkF m 245 #[.val (.int p0), .val (.int p1), .val (.int p2), .val (.int p3), .val (.int p4), .val (.int (f1 p0)), .val (.int (f1 p1)), .val (.int (f1 p2)), .val (.int (f1 p3)), o9, .val (.int cc), .val (.int dd), .val (.ref b5), .val (.ref b7), .val (.int (0 : Int32)), .val (.int (1 : Int32)), .unset] [(.int (1 : Int32))])) t
                refine XS.goto X42.here hx rfl (pc0 := 245) (pc' := 249) rfl (hb hby at_245) (by decide) (by decide) ?_
                show Steps p.tables e below (T42.setTop (mkF m 249 #[.val (.int p0), .val (.int p1), .val (.int p2), .val (.int p3), .val (.int p4), .val (.int (f1 p0)), .val (.int (f1 p1)), .val (.int (f1 p2)), .val (.int (f1 p3)), o9, .val (.int cc), .val (.int dd), .val (.ref b5), .val (.ref b7), .val (.int (0 : Int32)), .val (.int (1 : Int32)), .unset] [(.int (1 : Int32))])) t
                refine XS.istore X42.here hx rfl (hb hby at_249) rfl (l' := #[.val (.int p0), .val (.int p1), .val (.int p2), .val (.int p3), .val (.int p4), .val (.int (f1 p0)), .val (.int (f1 p1)), .val (.int (f1 p2)), .val (.int (f1 p3)), o9, .val (.int cc), .val (.int dd), .val (.ref b5), .val (.ref b7), .val (.int (0 : Int32)), .val (.int (1 : Int32)), .unset]) rfl ?_
                show Steps p.tables e below (T42.setTop (mkF m 251 #[.val (.int p0), .val (.int p1), .val (.int p2), .val (.int p3), .val (.int p4), .val (.int (f1 p0)), .val (.int (f1 p1)), .val (.int (f1 p2)), .val (.int (f1 p3)), o9, .val (.int cc), .val (.int dd), .val (.ref b5), .val (.ref b7), .val (.int (0 : Int32)), .val (.int (1 : Int32)), .unset] [])) t
                refine XS.iload X42.here hx rfl (hb hby at_251) rfl ?_
                exact kt
              refine OGo.callS X42 hx hZ (y := (⟨"java/lang/Integer", "valueOf", "(I)Ljava/lang/Integer;"⟩ : MethodName)) hown (own_wd hw 33 rfl) (own_wd hw 34 rfl) (own_wd hw 35 rfl) (own_wd hw 36 rfl) (by decide) (rm7 l Z az hw [] (f1 p0) w_high w_cache T8.heap n0 (Nat.le_trans Z0 KC8.1) (own_stakeep ((own_stakeep (S_high.ext E5) K6 (allS (own_obj A5) all0)).ext E7) K8 (allS (own_obj A7) all0)) (own_stakeep ((own_stakeep (S_cache.ext E5) K6 (allS (own_obj A5) all0)).ext E7) K8 (allS (own_obj A7) all0)) hHi ((((Ca.ext E5).keep K6 (ninS (Nat.ne_of_lt (Nat.lt_of_lt_of_le Ca.lt (Nat.le_of_eq g5.symm))) nin0)).ext E7).keep K8 (ninS (Nat.ne_of_lt (Nat.lt_of_lt_of_le ((Ca.ext E5).keep K6 (ninS (Nat.ne_of_lt (Nat.lt_of_lt_of_le Ca.lt (Nat.le_of_eq g5.symm))) nin0)).lt (Nat.le_of_eq g7.symm))) nin0))) (W := 0) (by decide) (by decide) (g := (mkF m 253 #[.val (.int p0), .val (.int p1), .val (.int p2), .val (.int p3), .val (.int p4), .val (.int (f1 p0)), .val (.int (f1 p1)), .val (.int (f1 p2)), .val (.int (f1 p3)), o9, .val (.int cc), .val (.int dd), .val (.ref b5), .val (.ref b7), .val (.int (0 : Int32)), .val (.int (1 : Int32)), .unset] [(.int (f1 p0))])) rfl (by rw [hml]; rfl) (argsL := [(.int (f1 p0))]) (rest := []) (lenOf pd_0_3 rfl) rfl (by show 2 * 0 + _ ≤ _; exact Nat.le_of_eq rfl) (hb hby at_253) rfl e42 (by decide) (by decide) ?_
              rintro _ T43 L43 X43 ⟨r43_r, rfl, Nq43, K43, P43_0⟩
              have KC43 : Keep h0 T43.heap [] := KC8.trans K43 all0
              have N43 := Fr.app N42 Nq43
              show OGo _ _ _ _ _ _ _ (T43.setTop (mkF m 256 #[.val (.int p0), .val (.int p1), .val (.int p2), .val (.int p3), .val (.int p4), .val (.int (f1 p0)), .val (.int (f1 p1)), .val (.int (f1 p2)), .val (.int (f1 p3)), o9, .val (.int cc), .val (.int dd), .val (.ref b5), .val (.ref b7), .val (.int (0 : Int32)), .val (.int (1 : Int32)), .unset] [(.ref r43_r)]))
              refine OGo.step (F' := T43.setTop (mkF m 267 #[.val (.int p0), .val (.int p1), .val (.int p2), .val (.int p3), .val (.int p4), .val (.int (f1 p0)), .val (.int (f1 p1)), .val (.int (f1 p2)), .val (.int (f1 p3)), o9, .val (.int cc), .val (.int dd), .val (.ref b5), .val (.ref b7), .val (.int (0 : Int32)), .val (.int (1 : Int32)), .val (.ref r43_r)] [(.ref r43_r), (.ref b5)])) (fun t kt => ?_) ?_
              · show Steps p.tables e below (T43.setTop (mkF m 256 #[.val (.int p0), .val (.int p1), .val (.int p2), .val (.int p3), .val (.int p4), .val (.int (f1 p0)), .val (.int (f1 p1)), .val (.int (f1 p2)), .val (.int (f1 p3)), o9, .val (.int cc), .val (.int dd), .val (.ref b5), .val (.ref b7), .val (.int (0 : Int32)), .val (.int (1 : Int32)), .unset] [(.ref r43_r)])) t
                refine XS.astore X43.here hx rfl (hb hby at_256) rfl rfl (l' := #[.val (.int p0), .val (.int p1), .val (.int p2), .val (.int p3), .val (.int p4), .val (.int (f1 p0)), .val (.int (f1 p1)), .val (.int (f1 p2)), .val (.int (f1 p3)), o9, .val (.int cc), .val (.int dd), .val (.ref b5), .val (.ref b7), .val (.int (0 : Int32)), .val (.int (1 : Int32)), .val (.ref r43_r)]) rfl ?_
                show Steps p.tables e below (T43.setTop (mkF m 258 #[.val (.int p0), .val (.int p1), .val (.int p2), .val (.int p3), .val (.int p4), .val (.int (f1 p0)), .val (.int (f1 p1)), .val (.int (f1 p2)), .val (.int (f1 p3)), o9, .val (.int cc), .val (.int dd), .val (.ref b5), .val (.ref b7), .val (.int (0 : Int32)), .val (.int (1 : Int32)), .val (.ref r43_r)] [])) t
                refine XS.iload X43.here hx rfl (hb hby at_258) rfl ?_
                show Steps p.tables e below (T43.setTop (mkF m 260 #[.val (.int p0), .val (.int p1), .val (.int p2), .val (.int p3), .val (.int p4), .val (.int (f1 p0)), .val (.int (f1 p1)), .val (.int (f1 p2)), .val (.int (f1 p3)), o9, .val (.int cc), .val (.int dd), .val (.ref b5), .val (.ref b7), .val (.int (0 : Int32)), .val (.int (1 : Int32)), .val (.ref r43_r)] [(.int (1 : Int32))])) t
                refine XS.ifNo X43.here hx rfl (hb hby at_260) rfl ((if0 _ _).trans (feq (by decide : ¬ ((1 : Int32) = (0 : Int32)))).1) ?_
                show Steps p.tables e below (T43.setTop (mkF m 263 #[.val (.int p0), .val (.int p1), .val (.int p2), .val (.int p3), .val (.int p4), .val (.int (f1 p0)), .val (.int (f1 p1)), .val (.int (f1 p2)), .val (.int (f1 p3)), o9, .val (.int cc), .val (.int dd), .val (.ref b5), .val (.ref b7), .val (.int (0 : Int32)), .val (.int (1 : Int32)), .val (.ref r43_r)] [])) t
                refine XS.aload X43.here hx rfl (hb hby at_263) rfl rfl ?_
                show Steps p.tables e below (T43.setTop (mkF m 265 #[.val (.int p0), .val (.int p1), .val (.int p2), .val (.int p3), .val (.int p4), .val (.int (f1 p0)), .val (.int (f1 p1)), .val (.int (f1 p2)), .val (.int (f1 p3)), o9, .val (.int cc), .val (.int dd), .val (.ref b5), .val (.ref b7), .val (.int (0 : Int32)), .val (.int (1 : Int32)), .val (.ref r43_r)] [(.ref b5)])) t
                refine XS.aload X43.here hx rfl (hb hby at_265) rfl rfl ?_
                exact kt
              refine OGo.callV X43 hx hZ (y := (⟨"com/example/harlow/harlow/core/topology/NodePair", "equals", "(Ljava/lang/Object;)Z"⟩ : MethodName)) (z := (⟨"com/example/harlow/harlow/core/topology/NodePair", "equals", "(Ljava/lang/Object;)Z"⟩ : MethodName)) hown (own_wd hw 26 rfl) (own_wd hw 27 rfl) (notFace_of_selects (args := #[]) (mvT hZ (own_wd hw 29 rfl))) (own_wd hw 29 rfl) (own_wd hw 28 rfl) (own_wd hw 11 rfl) (own_wd hw 30 rfl) (by decide) (rm6n l Z az hw [] b5 r43_r T43.heap n0 (Nat.le_trans Z0 KC43.1) P43_0) (W := 0) (by decide) (by decide) (((P6_0.ext E7).keep K8).keep K43) (g := (mkF m 267 #[.val (.int p0), .val (.int p1), .val (.int p2), .val (.int p3), .val (.int p4), .val (.int (f1 p0)), .val (.int (f1 p1)), .val (.int (f1 p2)), .val (.int (f1 p3)), o9, .val (.int cc), .val (.int dd), .val (.ref b5), .val (.ref b7), .val (.int (0 : Int32)), .val (.int (1 : Int32)), .val (.ref r43_r)] [(.ref r43_r), (.ref b5)])) rfl (by rw [hml]; rfl) (argsL := [(.ref r43_r)]) (rest := []) (lenOf pd_0_2 rfl) rfl (by show 2 * 0 + _ ≤ _; exact Nat.le_of_eq rfl) (hb hby at_267) rfl rfl (by decide) (by decide) ?_
              rintro _ T44 L44 X44 ⟨hv44, Nq44, e44⟩
              have N44 := Fr.app N43 Nq44
              rw [show f6n = (0 : Int32) from rfl] at hv44
              subst hv44
              show OGo _ _ _ _ _ _ _ (T44.setTop (mkF m 270 #[.val (.int p0), .val (.int p1), .val (.int p2), .val (.int p3), .val (.int p4), .val (.int (f1 p0)), .val (.int (f1 p1)), .val (.int (f1 p2)), .val (.int (f1 p3)), o9, .val (.int cc), .val (.int dd), .val (.ref b5), .val (.ref b7), .val (.int (0 : Int32)), .val (.int (1 : Int32)), .val (.ref r43_r)] [(.int (0 : Int32))]))
              refine OGo.step (F' := T44.setTop (mkF m 282 #[.val (.int p0), .val (.int p1), .val (.int p2), .val (.int p3), .val (.int p4), .val (.int (f1 p0)), .val (.int (f1 p1)), .val (.int (f1 p2)), .val (.int (f1 p3)), o9, .val (.int cc), .val (.int dd), .val (.ref b5), .val (.ref b7), .val (.int (0 : Int32)), .val (.int (1 : Int32)), .val (.ref r43_r)] [(.int (1 : Int32))])) (fun t kt => ?_) ?_
              · show Steps p.tables e below (T44.setTop (mkF m 270 #[.val (.int p0), .val (.int p1), .val (.int p2), .val (.int p3), .val (.int p4), .val (.int (f1 p0)), .val (.int (f1 p1)), .val (.int (f1 p2)), .val (.int (f1 p3)), o9, .val (.int cc), .val (.int dd), .val (.ref b5), .val (.ref b7), .val (.int (0 : Int32)), .val (.int (1 : Int32)), .val (.ref r43_r)] [(.int (0 : Int32))])) t
                refine XS.ifNo X44.here hx rfl (hb hby at_270) rfl ((if0 _ _).trans (teq (by decide : (0 : Int32) = (0 : Int32))).2) ?_
                show Steps p.tables e below (T44.setTop (mkF m 273 #[.val (.int p0), .val (.int p1), .val (.int p2), .val (.int p3), .val (.int p4), .val (.int (f1 p0)), .val (.int (f1 p1)), .val (.int (f1 p2)), .val (.int (f1 p3)), o9, .val (.int cc), .val (.int dd), .val (.ref b5), .val (.ref b7), .val (.int (0 : Int32)), .val (.int (1 : Int32)), .val (.ref r43_r)] [])) t
                refine XS.iconst X44.here hx rfl (hb hby at_273) ?_
                show Steps p.tables e below (T44.setTop (mkF m 274 #[.val (.int p0), .val (.int p1), .val (.int p2), .val (.int p3), .val (.int p4), .val (.int (f1 p0)), .val (.int (f1 p1)), .val (.int (f1 p2)), .val (.int (f1 p3)), o9, .val (.int cc), .val (.int dd), .val (.ref b5), .val (.ref b7), .val (.int (0 : Int32)), .val (.int (1 : Int32)), .val (.ref r43_r)] [(.int (1 : Int32))])) t
                refine XS.goto X44.here hx rfl (pc0 := 274) (pc' := 278) rfl (hb hby at_274) (by decide) (by decide) ?_
                show Steps p.tables e below (T44.setTop (mkF m 278 #[.val (.int p0), .val (.int p1), .val (.int p2), .val (.int p3), .val (.int p4), .val (.int (f1 p0)), .val (.int (f1 p1)), .val (.int (f1 p2)), .val (.int (f1 p3)), o9, .val (.int cc), .val (.int dd), .val (.ref b5), .val (.ref b7), .val (.int (0 : Int32)), .val (.int (1 : Int32)), .val (.ref r43_r)] [(.int (1 : Int32))])) t
                refine XS.istore X44.here hx rfl (hb hby at_278) rfl (l' := #[.val (.int p0), .val (.int p1), .val (.int p2), .val (.int p3), .val (.int p4), .val (.int (f1 p0)), .val (.int (f1 p1)), .val (.int (f1 p2)), .val (.int (f1 p3)), o9, .val (.int cc), .val (.int dd), .val (.ref b5), .val (.ref b7), .val (.int (0 : Int32)), .val (.int (1 : Int32)), .val (.ref r43_r)]) rfl ?_
                show Steps p.tables e below (T44.setTop (mkF m 280 #[.val (.int p0), .val (.int p1), .val (.int p2), .val (.int p3), .val (.int p4), .val (.int (f1 p0)), .val (.int (f1 p1)), .val (.int (f1 p2)), .val (.int (f1 p3)), o9, .val (.int cc), .val (.int dd), .val (.ref b5), .val (.ref b7), .val (.int (0 : Int32)), .val (.int (1 : Int32)), .val (.ref r43_r)] [])) t
                refine XS.iload X44.here hx rfl (hb hby at_280) rfl ?_
                exact kt
              refine OGo.retZ X44 hx hlk (t := .boolean) (z' := (1 : Int32)) hret (by simp) (hb hby at_282) rfl ?_ (by decide) (by decide)
              show Q0 Z p0 p1 p2 p3 p4 w_high w_cache h0 n0 _ T44.heap _
              rw [e44]
              exact ⟨rfl, N44, KC43⟩
          · refine OGo.step (F' := T8.setTop (mkF m 162 #[.val (.int p0), .val (.int p1), .val (.int p2), .val (.int p3), .val (.int p4), .val (.int (f1 p0)), .val (.int (f1 p1)), .val (.int (f1 p2)), .val (.int (f1 p3)), o9, .val (.int cc), .val (.int dd), .val (.ref b5), .val (.ref b7), .unset, .unset, .unset] [])) (fun t kt => ?_) ?_
            · show Steps p.tables e below (T8.setTop (mkF m 148 #[.val (.int p0), .val (.int p1), .val (.int p2), .val (.int p3), .val (.int p4), .val (.int (f1 p0)), .val (.int (f1 p1)), .val (.int (f1 p2)), .val (.int (f1 p3)), o9, .val (.int cc), .val (.int dd), .val (.ref b5), .val (.ref b7), .unset, .unset, .unset] [(.int dd), (.int (f1 p0))])) t
              refine XS.icmpYes X8.here hx rfl (pc0 := 148) (pc' := 162) rfl (hb hby at_148) rfl (feq hc148).2 (by decide) (by decide) ?_
              exact kt
            refine OGo.step (F' := T8.setTop (mkF m 169 #[.val (.int p0), .val (.int p1), .val (.int p2), .val (.int p3), .val (.int p4), .val (.int (f1 p0)), .val (.int (f1 p1)), .val (.int (f1 p2)), .val (.int (f1 p3)), o9, .val (.int cc), .val (.int dd), .val (.ref b5), .val (.ref b7), .val (.int (0 : Int32)), .unset, .unset] [(.ref b7), (.ref b5)])) (fun t kt => ?_) ?_
            · show Steps p.tables e below (T8.setTop (mkF m 162 #[.val (.int p0), .val (.int p1), .val (.int p2), .val (.int p3), .val (.int p4), .val (.int (f1 p0)), .val (.int (f1 p1)), .val (.int (f1 p2)), .val (.int (f1 p3)), o9, .val (.int cc), .val (.int dd), .val (.ref b5), .val (.ref b7), .unset, .unset, .unset] [])) t
              refine XS.iconst X8.here hx rfl (hb hby at_162) ?_
              show Steps p.tables e below (T8.setTop (mkF m 163 #[.val (.int p0), .val (.int p1), .val (.int p2), .val (.int p3), .val (.int p4), .val (.int (f1 p0)), .val (.int (f1 p1)), .val (.int (f1 p2)), .val (.int (f1 p3)), o9, .val (.int cc), .val (.int dd), .val (.ref b5), .val (.ref b7), .unset, .unset, .unset] [(.int (0 : Int32))])) t
              refine XS.istore X8.here hx rfl (hb hby at_163) rfl (l' := #[.val (.int p0), .val (.int p1), .val (.int p2), .val (.int p3), .val (.int p4), .val (.int (f1 p0)), .val (.int (f1 p1)), .val (.int (f1 p2)), .val (.int (f1 p3)), o9, .val (.int cc), .val (.int dd), .val (.ref b5), .val (.ref b7), .val (.int (0 : Int32)), .unset, .unset]) rfl ?_
              show Steps p.tables e below (T8.setTop (mkF m 165 #[.val (.int p0), .val (.int p1), .val (.int p2), .val (.int p3), .val (.int p4), .val (.int (f1 p0)), .val (.int (f1 p1)), .val (.int (f1 p2)), .val (.int (f1 p3)), o9, .val (.int cc), .val (.int dd), .val (.ref b5), .val (.ref b7), .val (.int (0 : Int32)), .unset, .unset] [])) t
              refine XS.aload X8.here hx rfl (hb hby at_165) rfl rfl ?_
              show Steps p.tables e below (T8.setTop (mkF m 167 #[.val (.int p0), .val (.int p1), .val (.int p2), .val (.int p3), .val (.int p4), .val (.int (f1 p0)), .val (.int (f1 p1)), .val (.int (f1 p2)), .val (.int (f1 p3)), o9, .val (.int cc), .val (.int dd), .val (.ref b5), .val (.ref b7), .val (.int (0 : Int32)), .unset, .unset] [(.ref b5)])) t
              refine XS.aload X8.here hx rfl (hb hby at_167) rfl rfl ?_
              exact kt
            refine OGo.callV X8 hx hZ (y := (⟨"com/example/harlow/harlow/core/topology/NodePair", "equals", "(Ljava/lang/Object;)Z"⟩ : MethodName)) (z := (⟨"com/example/harlow/harlow/core/topology/NodePair", "equals", "(Ljava/lang/Object;)Z"⟩ : MethodName)) hown (own_wd hw 26 rfl) (own_wd hw 27 rfl) (notFace_of_selects (args := #[]) (mvT hZ (own_wd hw 29 rfl))) (own_wd hw 29 rfl) (own_wd hw 28 rfl) (own_wd hw 11 rfl) (own_wd hw 30 rfl) (by decide) (rm6 l Z az hw [] b5 b7 (f5 cc dd) (f5 (f1 p0) (f1 p1)) (f2 cc dd) (f2 (f1 p0) (f1 p1)) T8.heap n0 (Nat.le_trans Z0 KC8.1) P8_0 P8_1 ((P6_1.ext E7).keep K8 (ninS (Nat.ne_of_lt (Nat.lt_of_lt_of_le P6_0.lt (Nat.le_of_eq g7.symm))) nin0)) P8_2 ((P6_2.ext E7).keep K8 (ninS (Nat.ne_of_lt (Nat.lt_of_lt_of_le P6_0.lt (Nat.le_of_eq g7.symm))) nin0))) (W := 0) (by decide) (by decide) ((P6_0.ext E7).keep K8) (g := (mkF m 169 #[.val (.int p0), .val (.int p1), .val (.int p2), .val (.int p3), .val (.int p4), .val (.int (f1 p0)), .val (.int (f1 p1)), .val (.int (f1 p2)), .val (.int (f1 p3)), o9, .val (.int cc), .val (.int dd), .val (.ref b5), .val (.ref b7), .val (.int (0 : Int32)), .unset, .unset] [(.ref b7), (.ref b5)])) rfl (by rw [hml]; rfl) (argsL := [(.ref b7)]) (rest := []) (lenOf pd_0_2 rfl) rfl (by show 2 * 0 + _ ≤ _; exact Nat.le_of_eq rfl) (hb hby at_169) rfl rfl (by decide) (by decide) ?_
            rintro _ T45 L45 X45 ⟨rfl, Nq45, e45⟩
            have N45 := Fr.app N8 Nq45
            show OGo _ _ _ _ _ _ _ (T45.setTop (mkF m 172 #[.val (.int p0), .val (.int p1), .val (.int p2), .val (.int p3), .val (.int p4), .val (.int (f1 p0)), .val (.int (f1 p1)), .val (.int (f1 p2)), .val (.int (f1 p3)), o9, .val (.int cc), .val (.int dd), .val (.ref b5), .val (.ref b7), .val (.int (0 : Int32)), .unset, .unset] [(.int (f6 (f5 cc dd) (f5 (f1 p0) (f1 p1)) (f2 cc dd) (f2 (f1 p0) (f1 p1))))]))
            refine OGo.step (F' := T45.setTop (mkF m 193 #[.val (.int p0), .val (.int p1), .val (.int p2), .val (.int p3), .val (.int p4), .val (.int (f1 p0)), .val (.int (f1 p1)), .val (.int (f1 p2)), .val (.int (f1 p3)), o9, .val (.int cc), .val (.int dd), .val (.ref b5), .val (.ref b7), .val (.int (0 : Int32)), .val (.int (1 : Int32)), .unset] [(.ref b5), (.ref b7)])) (fun t kt => ?_) ?_
            · show Steps p.tables e below (T45.setTop (mkF m 172 #[.val (.int p0), .val (.int p1), .val (.int p2), .val (.int p3), .val (.int p4), .val (.int (f1 p0)), .val (.int (f1 p1)), .val (.int (f1 p2)), .val (.int (f1 p3)), o9, .val (.int cc), .val (.int dd), .val (.ref b5), .val (.ref b7), .val (.int (0 : Int32)), .unset, .unset] [(.int (f6 (f5 cc dd) (f5 (f1 p0) (f1 p1)) (f2 cc dd) (f2 (f1 p0) (f1 p1))))])) t
              refine XS.iload X45.here hx rfl (hb hby at_172) rfl ?_
              show Steps p.tables e below (T45.setTop (mkF m 174 #[.val (.int p0), .val (.int p1), .val (.int p2), .val (.int p3), .val (.int p4), .val (.int (f1 p0)), .val (.int (f1 p1)), .val (.int (f1 p2)), .val (.int (f1 p3)), o9, .val (.int cc), .val (.int dd), .val (.ref b5), .val (.ref b7), .val (.int (0 : Int32)), .unset, .unset] [(.int (0 : Int32)), (.int (f6 (f5 cc dd) (f5 (f1 p0) (f1 p1)) (f2 cc dd) (f2 (f1 p0) (f1 p1))))])) t
              refine XS.icmpNo X45.here hx rfl (hb hby at_174) rfl (teq (own_eq0 (fun q => q.elim (fun z => hc134 z.1) (fun z => hc148 z.1)))).2 ?_
              show Steps p.tables e below (T45.setTop (mkF m 177 #[.val (.int p0), .val (.int p1), .val (.int p2), .val (.int p3), .val (.int p4), .val (.int (f1 p0)), .val (.int (f1 p1)), .val (.int (f1 p2)), .val (.int (f1 p3)), o9, .val (.int cc), .val (.int dd), .val (.ref b5), .val (.ref b7), .val (.int (0 : Int32)), .unset, .unset] [])) t
              refine XS.iconst X45.here hx rfl (hb hby at_177) ?_
              show Steps p.tables e below (T45.setTop (mkF m 178 #[.val (.int p0), .val (.int p1), .val (.int p2), .val (.int p3), .val (.int p4), .val (.int (f1 p0)), .val (.int (f1 p1)), .val (.int (f1 p2)), .val (.int (f1 p3)), o9, .val (.int cc), .val (.int dd), .val (.ref b5), .val (.ref b7), .val (.int (0 : Int32)), .unset, .unset] [(.int (1 : Int32))])) t
              refine XS.goto X45.here hx rfl (pc0 := 178) (pc' := 182) rfl (hb hby at_178) (by decide) (by decide) ?_
              show Steps p.tables e below (T45.setTop (mkF m 182 #[.val (.int p0), .val (.int p1), .val (.int p2), .val (.int p3), .val (.int p4), .val (.int (f1 p0)), .val (.int (f1 p1)), .val (.int (f1 p2)), .val (.int (f1 p3)), o9, .val (.int cc), .val (.int dd), .val (.ref b5), .val (.ref b7), .val (.int (0 : Int32)), .unset, .unset] [(.int (1 : Int32))])) t
              refine XS.istore X45.here hx rfl (hb hby at_182) rfl (l' := #[.val (.int p0), .val (.int p1), .val (.int p2), .val (.int p3), .val (.int p4), .val (.int (f1 p0)), .val (.int (f1 p1)), .val (.int (f1 p2)), .val (.int (f1 p3)), o9, .val (.int cc), .val (.int dd), .val (.ref b5), .val (.ref b7), .val (.int (0 : Int32)), .val (.int (1 : Int32)), .unset]) rfl ?_
              show Steps p.tables e below (T45.setTop (mkF m 184 #[.val (.int p0), .val (.int p1), .val (.int p2), .val (.int p3), .val (.int p4), .val (.int (f1 p0)), .val (.int (f1 p1)), .val (.int (f1 p2)), .val (.int (f1 p3)), o9, .val (.int cc), .val (.int dd), .val (.ref b5), .val (.ref b7), .val (.int (0 : Int32)), .val (.int (1 : Int32)), .unset] [])) t
              refine XS.iload X45.here hx rfl (hb hby at_184) rfl ?_
              show Steps p.tables e below (T45.setTop (mkF m 186 #[.val (.int p0), .val (.int p1), .val (.int p2), .val (.int p3), .val (.int p4), .val (.int (f1 p0)), .val (.int (f1 p1)), .val (.int (f1 p2)), .val (.int (f1 p3)), o9, .val (.int cc), .val (.int dd), .val (.ref b5), .val (.ref b7), .val (.int (0 : Int32)), .val (.int (1 : Int32)), .unset] [(.int (1 : Int32))])) t
              refine XS.ifNo X45.here hx rfl (hb hby at_186) rfl ((if0 _ _).trans (feq (by decide : ¬ ((1 : Int32) = (0 : Int32)))).1) ?_
              show Steps p.tables e below (T45.setTop (mkF m 189 #[.val (.int p0), .val (.int p1), .val (.int p2), .val (.int p3), .val (.int p4), .val (.int (f1 p0)), .val (.int (f1 p1)), .val (.int (f1 p2)), .val (.int (f1 p3)), o9, .val (.int cc), .val (.int dd), .val (.ref b5), .val (.ref b7), .val (.int (0 : Int32)), .val (.int (1 : Int32)), .unset] [])) t
              refine XS.aload X45.here hx rfl (hb hby at_189) rfl rfl ?_
              show Steps p.tables e below (T45.setTop (mkF m 191 #[.val (.int p0), .val (.int p1), .val (.int p2), .val (.int p3), .val (.int p4), .val (.int (f1 p0)), .val (.int (f1 p1)), .val (.int (f1 p2)), .val (.int (f1 p3)), o9, .val (.int cc), .val (.int dd), .val (.ref b5), .val (.ref b7), .val (.int (0 : Int32)), .val (.int (1 : Int32)), .unset] [(.ref b7)])) t
              refine XS.aload X45.here hx rfl (hb hby at_191) rfl rfl ?_
              exact kt
            refine OGo.callV X45 hx hZ (y := (⟨"com/example/harlow/harlow/core/topology/NodePair", "equals", "(Ljava/lang/Object;)Z"⟩ : MethodName)) (z := (⟨"com/example/harlow/harlow/core/topology/NodePair", "equals", "(Ljava/lang/Object;)Z"⟩ : MethodName)) hown (own_wd hw 26 rfl) (own_wd hw 27 rfl) (notFace_of_selects (args := #[]) (mvT hZ (own_wd hw 29 rfl))) (own_wd hw 29 rfl) (own_wd hw 28 rfl) (own_wd hw 11 rfl) (own_wd hw 30 rfl) (by decide) (rm6 l Z az hw [] b7 b5 (f5 (f1 p0) (f1 p1)) (f5 cc dd) (f2 (f1 p0) (f1 p1)) (f2 cc dd) T8.heap n0 (Nat.le_trans Z0 KC8.1) ((P6_0.ext E7).keep K8) ((P6_1.ext E7).keep K8 (ninS (Nat.ne_of_lt (Nat.lt_of_lt_of_le P6_0.lt (Nat.le_of_eq g7.symm))) nin0)) P8_1 ((P6_2.ext E7).keep K8 (ninS (Nat.ne_of_lt (Nat.lt_of_lt_of_le P6_0.lt (Nat.le_of_eq g7.symm))) nin0)) P8_2) (W := 0) (by decide) (by decide) P8_0 (g := (mkF m 193 #[.val (.int p0), .val (.int p1), .val (.int p2), .val (.int p3), .val (.int p4), .val (.int (f1 p0)), .val (.int (f1 p1)), .val (.int (f1 p2)), .val (.int (f1 p3)), o9, .val (.int cc), .val (.int dd), .val (.ref b5), .val (.ref b7), .val (.int (0 : Int32)), .val (.int (1 : Int32)), .unset] [(.ref b5), (.ref b7)])) rfl (by rw [hml]; rfl) (argsL := [(.ref b5)]) (rest := []) (lenOf pd_0_2 rfl) rfl (by show 2 * 0 + _ ≤ _; exact Nat.le_of_eq rfl) (hb hby at_193) rfl e45 (by decide) (by decide) ?_
            rintro _ T46 L46 X46 ⟨rfl, Nq46, e46⟩
            have N46 := Fr.app N45 Nq46
            show OGo _ _ _ _ _ _ _ (T46.setTop (mkF m 196 #[.val (.int p0), .val (.int p1), .val (.int p2), .val (.int p3), .val (.int p4), .val (.int (f1 p0)), .val (.int (f1 p1)), .val (.int (f1 p2)), .val (.int (f1 p3)), o9, .val (.int cc), .val (.int dd), .val (.ref b5), .val (.ref b7), .val (.int (0 : Int32)), .val (.int (1 : Int32)), .unset] [(.int (f6 (f5 (f1 p0) (f1 p1)) (f5 cc dd) (f2 (f1 p0) (f1 p1)) (f2 cc dd)))]))
            refine OGo.step (F' := T46.setTop (mkF m 217 #[.val (.int p0), .val (.int p1), .val (.int p2), .val (.int p3), .val (.int p4), .val (.int (f1 p0)), .val (.int (f1 p1)), .val (.int (f1 p2)), .val (.int (f1 p3)), o9, .val (.int cc), .val (.int dd), .val (.ref b5), .val (.ref b7), .val (.int (0 : Int32)), .val (.int (1 : Int32)), .unset] [(.ref b5), (.ref b5)])) (fun t kt => ?_) ?_
            · show Steps p.tables e below (T46.setTop (mkF m 196 #[.val (.int p0), .val (.int p1), .val (.int p2), .val (.int p3), .val (.int p4), .val (.int (f1 p0)), .val (.int (f1 p1)), .val (.int (f1 p2)), .val (.int (f1 p3)), o9, .val (.int cc), .val (.int dd), .val (.ref b5), .val (.ref b7), .val (.int (0 : Int32)), .val (.int (1 : Int32)), .unset] [(.int (f6 (f5 (f1 p0) (f1 p1)) (f5 cc dd) (f2 (f1 p0) (f1 p1)) (f2 cc dd)))])) t
              refine XS.iload X46.here hx rfl (hb hby at_196) rfl ?_
              show Steps p.tables e below (T46.setTop (mkF m 198 #[.val (.int p0), .val (.int p1), .val (.int p2), .val (.int p3), .val (.int p4), .val (.int (f1 p0)), .val (.int (f1 p1)), .val (.int (f1 p2)), .val (.int (f1 p3)), o9, .val (.int cc), .val (.int dd), .val (.ref b5), .val (.ref b7), .val (.int (0 : Int32)), .val (.int (1 : Int32)), .unset] [(.int (0 : Int32)), (.int (f6 (f5 (f1 p0) (f1 p1)) (f5 cc dd) (f2 (f1 p0) (f1 p1)) (f2 cc dd)))])) t
              refine XS.icmpNo X46.here hx rfl (hb hby at_198) rfl (teq ((own_com _ _ _ _).trans (own_eq0 (fun q => q.elim (fun z => hc134 z.1) (fun z => hc148 z.1))))).2 ?_
              show Steps p.tables e below (T46.setTop (mkF m 201 #[.val (.int p0), .val (.int p1), .val (.int p2), .val (.int p3), .val (.int p4), .val (.int (f1 p0)), .val (.int (f1 p1)), .val (.int (f1 p2)), .val (.int (f1 p3)), o9, .val (.int cc), .val (.int dd), .val (.ref b5), .val (.ref b7), .val (.int (0 : Int32)), .val (.int (1 : Int32)), .unset] [])) t
              refine XS.iconst X46.here hx rfl (hb hby at_201) ?_
              show Steps p.tables e below (T46.setTop (mkF m 202 #[.val (.int p0), .val (.int p1), .val (.int p2), .val (.int p3), .val (.int p4), .val (.int (f1 p0)), .val (.int (f1 p1)), .val (.int (f1 p2)), .val (.int (f1 p3)), o9, .val (.int cc), .val (.int dd), .val (.ref b5), .val (.ref b7), .val (.int (0 : Int32)), .val (.int (1 : Int32)), .unset] [(.int (1 : Int32))])) t
              refine XS.goto X46.here hx rfl (pc0 := 202) (pc' := 206) rfl (hb hby at_202) (by decide) (by decide) ?_
              show Steps p.tables e below (T46.setTop (mkF m 206 #[.val (.int p0), .val (.int p1), .val (.int p2), .val (.int p3), .val (.int p4), .val (.int (f1 p0)), .val (.int (f1 p1)), .val (.int (f1 p2)), .val (.int (f1 p3)), o9, .val (.int cc), .val (.int dd), .val (.ref b5), .val (.ref b7), .val (.int (0 : Int32)), .val (.int (1 : Int32)), .unset] [(.int (1 : Int32))])) t
              refine XS.istore X46.here hx rfl (hb hby at_206) rfl (l' := #[.val (.int p0), .val (.int p1), .val (.int p2), .val (.int p3), .val (.int p4), .val (.int (f1 p0)), .val (.int (f1 p1)), .val (.int (f1 p2)), .val (.int (f1 p3)), o9, .val (.int cc), .val (.int dd), .val (.ref b5), .val (.ref b7), .val (.int (0 : Int32)), .val (.int (1 : Int32)), .unset]) rfl ?_
              show Steps p.tables e below (T46.setTop (mkF m 208 #[.val (.int p0), .val (.int p1), .val (.int p2), .val (.int p3), .val (.int p4), .val (.int (f1 p0)), .val (.int (f1 p1)), .val (.int (f1 p2)), .val (.int (f1 p3)), o9, .val (.int cc), .val (.int dd), .val (.ref b5), .val (.ref b7), .val (.int (0 : Int32)), .val (.int (1 : Int32)), .unset] [])) t
              refine XS.iload X46.here hx rfl (hb hby at_208) rfl ?_
              show Steps p.tables e below (T46.setTop (mkF m 210 #[.val (.int p0), .val (.int p1), .val (.int p2), .val (.int p3), .val (.int p4), .val (.int (f1 p0)), .val (.int (f1 p1)), .val (.int (f1 p2)), .val (.int (f1 p3)), o9, .val (.int cc), .val (.int dd), .val (.ref b5), .val (.ref b7), .val (.int (0 : Int32)), .val (.int (1 : Int32)), .unset] [(.int (1 : Int32))])) t
              refine XS.ifNo X46.here hx rfl (hb hby at_210) rfl ((if0 _ _).trans (feq (by decide : ¬ ((1 : Int32) = (0 : Int32)))).1) ?_
              show Steps p.tables e below (T46.setTop (mkF m 213 #[.val (.int p0), .val (.int p1), .val (.int p2), .val (.int p3), .val (.int p4), .val (.int (f1 p0)), .val (.int (f1 p1)), .val (.int (f1 p2)), .val (.int (f1 p3)), o9, .val (.int cc), .val (.int dd), .val (.ref b5), .val (.ref b7), .val (.int (0 : Int32)), .val (.int (1 : Int32)), .unset] [])) t
              refine XS.aload X46.here hx rfl (hb hby at_213) rfl rfl ?_
              show Steps p.tables e below (T46.setTop (mkF m 215 #[.val (.int p0), .val (.int p1), .val (.int p2), .val (.int p3), .val (.int p4), .val (.int (f1 p0)), .val (.int (f1 p1)), .val (.int (f1 p2)), .val (.int (f1 p3)), o9, .val (.int cc), .val (.int dd), .val (.ref b5), .val (.ref b7), .val (.int (0 : Int32)), .val (.int (1 : Int32)), .unset] [(.ref b5)])) t
              refine XS.aload X46.here hx rfl (hb hby at_215) rfl rfl ?_
              exact kt
            refine OGo.callV X46 hx hZ (y := (⟨"com/example/harlow/harlow/core/topology/NodePair", "equals", "(Ljava/lang/Object;)Z"⟩ : MethodName)) (z := (⟨"com/example/harlow/harlow/core/topology/NodePair", "equals", "(Ljava/lang/Object;)Z"⟩ : MethodName)) hown (own_wd hw 26 rfl) (own_wd hw 27 rfl) (notFace_of_selects (args := #[]) (mvT hZ (own_wd hw 29 rfl))) (own_wd hw 29 rfl) (own_wd hw 28 rfl) (own_wd hw 11 rfl) (own_wd hw 30 rfl) (by decide) (rm6 l Z az hw [] b5 b5 (f5 (f1 p0) (f1 p1)) (f5 (f1 p0) (f1 p1)) (f2 (f1 p0) (f1 p1)) (f2 (f1 p0) (f1 p1)) T8.heap n0 (Nat.le_trans Z0 KC8.1) ((P6_0.ext E7).keep K8) ((P6_1.ext E7).keep K8 (ninS (Nat.ne_of_lt (Nat.lt_of_lt_of_le P6_0.lt (Nat.le_of_eq g7.symm))) nin0)) ((P6_1.ext E7).keep K8 (ninS (Nat.ne_of_lt (Nat.lt_of_lt_of_le P6_0.lt (Nat.le_of_eq g7.symm))) nin0)) ((P6_2.ext E7).keep K8 (ninS (Nat.ne_of_lt (Nat.lt_of_lt_of_le P6_0.lt (Nat.le_of_eq g7.symm))) nin0)) ((P6_2.ext E7).keep K8 (ninS (Nat.ne_of_lt (Nat.lt_of_lt_of_le P6_0.lt (Nat.le_of_eq g7.symm))) nin0))) (W := 0) (by decide) (by decide) ((P6_0.ext E7).keep K8) (g := (mkF m 217 #[.val (.int p0), .val (.int p1), .val (.int p2), .val (.int p3), .val (.int p4), .val (.int (f1 p0)), .val (.int (f1 p1)), .val (.int (f1 p2)), .val (.int (f1 p3)), o9, .val (.int cc), .val (.int dd), .val (.ref b5), .val (.ref b7), .val (.int (0 : Int32)), .val (.int (1 : Int32)), .unset] [(.ref b5), (.ref b5)])) rfl (by rw [hml]; rfl) (argsL := [(.ref b5)]) (rest := []) (lenOf pd_0_2 rfl) rfl (by show 2 * 0 + _ ≤ _; exact Nat.le_of_eq rfl) (hb hby at_217) rfl e46 (by decide) (by decide) ?_
            rintro _ T47 L47 X47 ⟨rfl, Nq47, e47⟩
            have N47 := Fr.app N46 Nq47
            show OGo _ _ _ _ _ _ _ (T47.setTop (mkF m 220 #[.val (.int p0), .val (.int p1), .val (.int p2), .val (.int p3), .val (.int p4), .val (.int (f1 p0)), .val (.int (f1 p1)), .val (.int (f1 p2)), .val (.int (f1 p3)), o9, .val (.int cc), .val (.int dd), .val (.ref b5), .val (.ref b7), .val (.int (0 : Int32)), .val (.int (1 : Int32)), .unset] [(.int (f6 (f5 (f1 p0) (f1 p1)) (f5 (f1 p0) (f1 p1)) (f2 (f1 p0) (f1 p1)) (f2 (f1 p0) (f1 p1))))]))
            refine OGo.step (F' := T47.setTop (mkF m 238 #[.val (.int p0), .val (.int p1), .val (.int p2), .val (.int p3), .val (.int p4), .val (.int (f1 p0)), .val (.int (f1 p1)), .val (.int (f1 p2)), .val (.int (f1 p3)), o9, .val (.int cc), .val (.int dd), .val (.ref b5), .val (.ref b7), .val (.int (0 : Int32)), .val (.int (1 : Int32)), .unset] [.null, (.ref b5)])) (fun t kt => ?_) ?_
            · show Steps p.tables e below (T47.setTop (mkF m 220 #[.val (.int p0), .val (.int p1), .val (.int p2), .val (.int p3), .val (.int p4), .val (.int (f1 p0)), .val (.int (f1 p1)), .val (.int (f1 p2)), .val (.int (f1 p3)), o9, .val (.int cc), .val (.int dd), .val (.ref b5), .val (.ref b7), .val (.int (0 : Int32)), .val (.int (1 : Int32)), .unset] [(.int (f6 (f5 (f1 p0) (f1 p1)) (f5 (f1 p0) (f1 p1)) (f2 (f1 p0) (f1 p1)) (f2 (f1 p0) (f1 p1))))])) t
              refine XS.ifNo X47.here hx rfl (hb hby at_220) rfl ((if0 _ _).trans (feq (own_refl _ _)).1) ?_
              show Steps p.tables e below (T47.setTop (mkF m 223 #[.val (.int p0), .val (.int p1), .val (.int p2), .val (.int p3), .val (.int p4), .val (.int (f1 p0)), .val (.int (f1 p1)), .val (.int (f1 p2)), .val (.int (f1 p3)), o9, .val (.int cc), .val (.int dd), .val (.ref b5), .val (.ref b7), .val (.int (0 : Int32)), .val (.int (1 : Int32)), .unset] [])) t
              refine XS.iconst X47.here hx rfl (hb hby at_223) ?_
              show Steps p.tables e below (T47.setTop (mkF m 224 #[.val (.int p0), .val (.int p1), .val (.int p2), .val (.int p3), .val (.int p4), .val (.int (f1 p0)), .val (.int (f1 p1)), .val (.int (f1 p2)), .val (.int (f1 p3)), o9, .val (.int cc), .val (.int dd), .val (.ref b5), .val (.ref b7), .val (.int (0 : Int32)), .val (.int (1 : Int32)), .unset] [(.int (1 : Int32))])) t
              refine XS.goto X47.here hx rfl (pc0 := 224) (pc' := 228) rfl (hb hby at_224) (by decide) (by decide) ?_
              show Steps p.tables e below (T47.setTop (mkF m 228 #[.val (.int p0), .val (.int p1), .val (.int p2), .val (.int p3), .val (.int p4), .val (.int (f1 p0)), .val (.int (f1 p1)), .val (.int (f1 p2)), .val (.int (f1 p3)), o9, .val (.int cc), .val (.int dd), .val (.ref b5), .val (.ref b7), .val (.int (0 : Int32)), .val (.int (1 : Int32)), .unset] [(.int (1 : Int32))])) t
              refine XS.istore X47.here hx rfl (hb hby at_228) rfl (l' := #[.val (.int p0), .val (.int p1), .val (.int p2), .val (.int p3), .val (.int p4), .val (.int (f1 p0)), .val (.int (f1 p1)), .val (.int (f1 p2)), .val (.int (f1 p3)), o9, .val (.int cc), .val (.int dd), .val (.ref b5), .val (.ref b7), .val (.int (0 : Int32)), .val (.int (1 : Int32)), .unset]) rfl ?_
              show Steps p.tables e below (T47.setTop (mkF m 230 #[.val (.int p0), .val (.int p1), .val (.int p2), .val (.int p3), .val (.int p4), .val (.int (f1 p0)), .val (.int (f1 p1)), .val (.int (f1 p2)), .val (.int (f1 p3)), o9, .val (.int cc), .val (.int dd), .val (.ref b5), .val (.ref b7), .val (.int (0 : Int32)), .val (.int (1 : Int32)), .unset] [])) t
              refine XS.iload X47.here hx rfl (hb hby at_230) rfl ?_
              show Steps p.tables e below (T47.setTop (mkF m 232 #[.val (.int p0), .val (.int p1), .val (.int p2), .val (.int p3), .val (.int p4), .val (.int (f1 p0)), .val (.int (f1 p1)), .val (.int (f1 p2)), .val (.int (f1 p3)), o9, .val (.int cc), .val (.int dd), .val (.ref b5), .val (.ref b7), .val (.int (0 : Int32)), .val (.int (1 : Int32)), .unset] [(.int (1 : Int32))])) t
              refine XS.ifNo X47.here hx rfl (hb hby at_232) rfl ((if0 _ _).trans (feq (by decide : ¬ ((1 : Int32) = (0 : Int32)))).1) ?_
              show Steps p.tables e below (T47.setTop (mkF m 235 #[.val (.int p0), .val (.int p1), .val (.int p2), .val (.int p3), .val (.int p4), .val (.int (f1 p0)), .val (.int (f1 p1)), .val (.int (f1 p2)), .val (.int (f1 p3)), o9, .val (.int cc), .val (.int dd), .val (.ref b5), .val (.ref b7), .val (.int (0 : Int32)), .val (.int (1 : Int32)), .unset] [])) t
              refine XS.aload X47.here hx rfl (hb hby at_235) rfl rfl ?_
              show Steps p.tables e below (T47.setTop (mkF m 237 #[.val (.int p0), .val (.int p1), .val (.int p2), .val (.int p3), .val (.int p4), .val (.int (f1 p0)), .val (.int (f1 p1)), .val (.int (f1 p2)), .val (.int (f1 p3)), o9, .val (.int cc), .val (.int dd), .val (.ref b5), .val (.ref b7), .val (.int (0 : Int32)), .val (.int (1 : Int32)), .unset] [(.ref b5)])) t
              refine XS.aconstNull X47.here hx rfl (hb hby at_237) ?_
              exact kt
            refine OGo.callV X47 hx hZ (y := (⟨"com/example/harlow/harlow/core/topology/NodePair", "equals", "(Ljava/lang/Object;)Z"⟩ : MethodName)) (z := (⟨"com/example/harlow/harlow/core/topology/NodePair", "equals", "(Ljava/lang/Object;)Z"⟩ : MethodName)) hown (own_wd hw 26 rfl) (own_wd hw 27 rfl) (notFace_of_selects (args := #[]) (mvT hZ (own_wd hw 29 rfl))) (own_wd hw 29 rfl) (own_wd hw 28 rfl) (own_wd hw 11 rfl) (own_wd hw 30 rfl) (by decide) (rm6z l Z az hw [] b5 T8.heap n0 (Nat.le_trans Z0 KC8.1)) (W := 0) (by decide) (by decide) ((P6_0.ext E7).keep K8) (g := (mkF m 238 #[.val (.int p0), .val (.int p1), .val (.int p2), .val (.int p3), .val (.int p4), .val (.int (f1 p0)), .val (.int (f1 p1)), .val (.int (f1 p2)), .val (.int (f1 p3)), o9, .val (.int cc), .val (.int dd), .val (.ref b5), .val (.ref b7), .val (.int (0 : Int32)), .val (.int (1 : Int32)), .unset] [.null, (.ref b5)])) rfl (by rw [hml]; rfl) (argsL := [.null]) (rest := []) (lenOf pd_0_2 rfl) rfl (by show 2 * 0 + _ ≤ _; exact Nat.le_of_eq rfl) (hb hby at_238) rfl e47 (by decide) (by decide) ?_
            rintro _ T48 L48 X48 ⟨hv48, Nq48, e48⟩
            have N48 := Fr.app N47 Nq48
            rw [show f6z = (0 : Int32) from rfl] at hv48
            subst hv48
            show OGo _ _ _ _ _ _ _ (T48.setTop (mkF m 241 #[.val (.int p0), .val (.int p1), .val (.int p2), .val (.int p3), .val (.int p4), .val (.int (f1 p0)), .val (.int (f1 p1)), .val (.int (f1 p2)), .val (.int (f1 p3)), o9, .val (.int cc), .val (.int dd), .val (.ref b5), .val (.ref b7), .val (.int (0 : Int32)), .val (.int (1 : Int32)), .unset] [(.int (0 : Int32))]))
            refine OGo.step (F' := T48.setTop (mkF m 253 #[.val (.int p0), .val (.int p1), .val (.int p2), .val (.int p3), .val (.int p4), .val (.int (f1 p0)), .val (.int (f1 p1)), .val (.int (f1 p2)), .val (.int (f1 p3)), o9, .val (.int cc), .val (.int dd), .val (.ref b5), .val (.ref b7), .val (.int (0 : Int32)), .val (.int (1 : Int32)), .unset] [(.int (f1 p0))])) (fun t kt => ?_) ?_
            · show Steps p.tables e below (T48.setTop (mkF m 241 #[.val (.int p0), .val (.int p1), .val (.int p2), .val (.int p3), .val (.int p4), .val (.int (f1 p0)), .val (.int (f1 p1)), .val (.int (f1 p2)), .val (.int (f1 p3)), o9, .val (.int cc), .val (.int dd), .val (.ref b5), .val (.ref b7), .val (.int (0 : Int32)), .val (.int (1 : Int32)), .unset] [(.int (0 : Int32))])) t
              refine XS.ifNo X48.here hx rfl (hb hby at_241) rfl ((if0 _ _).trans (teq (by decide : (0 : Int32) = (0 : Int32))).2) ?_
              show Steps p.tables e below (T48.setTop (mkF m 244 #[.val (.int p0), .val (.int p1), .val (.int p2), .val (.int p3), .val (.int p4), .val (.int (f1 p0)), .val (.int (f1 p1)), .val (.int (f1 p2)), .val (.int (f1 p3)), o9, .val (.int cc), .val (.int dd), .val (.ref b5), .val (.ref b7), .val (.int (0 : Int32)), .val (.int (1 : Int32)), .unset] [])) t
              refine XS.iconst X48.here hx rfl (hb hby at_244) ?_
              show Steps p.tables e below (T48.setTop (mkF m 245 #[.val (.int p0), .val (.int p1), .val (.int p2), .val (.int p3), .val (.int p4), .val (.int (f1 p0)), .val (.int (f1 p1)), .val (.int (f1 p2)), .val (.int (f1 p3)), o9, .val (.int cc), .val (.int dd), .val (.ref b5), .val (.ref b7), .val (.int (0 : Int32)), .val (.int (1 : Int32)), .unset] [(.int (1 : Int32))])) t
              refine XS.goto X48.here hx rfl (pc0 := 245) (pc' := 249) rfl (hb hby at_245) (by decide) (by decide) ?_
              show Steps p.tables e below (T48.setTop (mkF m 249 #[.val (.int p0), .val (.int p1), .val (.int p2), .val (.int p3), .val (.int p4), .val (.int (f1 p0)), .val (.int (f1 p1)), .val (.int (f1 p2)), .val (.int (f1 p3)), o9, .val (.int cc), .val (.int dd), .val (.ref b5), .val (.ref b7), .val (.int (0 : Int32)), .val (.int (1 : Int32)), .unset] [(.int (1 : Int32))])) t
              refine XS.istore X48.here hx rfl (hb hby at_249) rfl (l' := #[.val (.int p0), .val (.int p1), .val (.int p2), .val (.int p3), .val (.int p4), .val (.int (f1 p0)), .val (.int (f1 p1)), .val (.int (f1 p2)), .val (.int (f1 p3)), o9, .val (.int cc), .val (.int dd), .val (.ref b5), .val (.ref b7), .val (.int (0 : Int32)), .val (.int (1 : Int32)), .unset]) rfl ?_
              show Steps p.tables e below (T48.setTop (mkF m 251 #[.val (.int p0), .val (.int p1), .val (.int p2), .val (.int p3), .val (.int p4), .val (.int (f1 p0)), .val (.int (f1 p1)), .val (.int (f1 p2)), .val (.int (f1 p3)), o9, .val (.int cc), .val (.int dd), .val (.ref b5), .val (.ref b7), .val (.int (0 : Int32)), .val (.int (1 : Int32)), .unset] [])) t
              refine XS.iload X48.here hx rfl (hb hby at_251) rfl ?_
              exact kt
            refine OGo.callS X48 hx hZ (y := (⟨"java/lang/Integer", "valueOf", "(I)Ljava/lang/Integer;"⟩ : MethodName)) hown (own_wd hw 33 rfl) (own_wd hw 34 rfl) (own_wd hw 35 rfl) (own_wd hw 36 rfl) (by decide) (rm7 l Z az hw [] (f1 p0) w_high w_cache T8.heap n0 (Nat.le_trans Z0 KC8.1) (own_stakeep ((own_stakeep (S_high.ext E5) K6 (allS (own_obj A5) all0)).ext E7) K8 (allS (own_obj A7) all0)) (own_stakeep ((own_stakeep (S_cache.ext E5) K6 (allS (own_obj A5) all0)).ext E7) K8 (allS (own_obj A7) all0)) hHi ((((Ca.ext E5).keep K6 (ninS (Nat.ne_of_lt (Nat.lt_of_lt_of_le Ca.lt (Nat.le_of_eq g5.symm))) nin0)).ext E7).keep K8 (ninS (Nat.ne_of_lt (Nat.lt_of_lt_of_le ((Ca.ext E5).keep K6 (ninS (Nat.ne_of_lt (Nat.lt_of_lt_of_le Ca.lt (Nat.le_of_eq g5.symm))) nin0)).lt (Nat.le_of_eq g7.symm))) nin0))) (W := 0) (by decide) (by decide) (g := (mkF m 253 #[.val (.int p0), .val (.int p1), .val (.int p2), .val (.int p3), .val (.int p4), .val (.int (f1 p0)), .val (.int (f1 p1)), .val (.int (f1 p2)), .val (.int (f1 p3)), o9, .val (.int cc), .val (.int dd), .val (.ref b5), .val (.ref b7), .val (.int (0 : Int32)), .val (.int (1 : Int32)), .unset] [(.int (f1 p0))])) rfl (by rw [hml]; rfl) (argsL := [(.int (f1 p0))]) (rest := []) (lenOf pd_0_3 rfl) rfl (by show 2 * 0 + _ ≤ _; exact Nat.le_of_eq rfl) (hb hby at_253) rfl e48 (by decide) (by decide) ?_
            rintro _ T49 L49 X49 ⟨r49_r, rfl, Nq49, K49, P49_0⟩
            have KC49 : Keep h0 T49.heap [] := KC8.trans K49 all0
            have N49 := Fr.app N48 Nq49
            show OGo _ _ _ _ _ _ _ (T49.setTop (mkF m 256 #[.val (.int p0), .val (.int p1), .val (.int p2), .val (.int p3), .val (.int p4), .val (.int (f1 p0)), .val (.int (f1 p1)), .val (.int (f1 p2)), .val (.int (f1 p3)), o9, .val (.int cc), .val (.int dd), .val (.ref b5), .val (.ref b7), .val (.int (0 : Int32)), .val (.int (1 : Int32)), .unset] [(.ref r49_r)]))
            refine OGo.step (F' := T49.setTop (mkF m 267 #[.val (.int p0), .val (.int p1), .val (.int p2), .val (.int p3), .val (.int p4), .val (.int (f1 p0)), .val (.int (f1 p1)), .val (.int (f1 p2)), .val (.int (f1 p3)), o9, .val (.int cc), .val (.int dd), .val (.ref b5), .val (.ref b7), .val (.int (0 : Int32)), .val (.int (1 : Int32)), .val (.ref r49_r)] [(.ref r49_r), (.ref b5)])) (fun t kt => ?_) ?_
            · show Steps p.tables e below (T49.setTop (mkF m 256 #[.val (.int p0), .val (.int p1), .val (.int p2), .val (.int p3), .val (.int p4), .val (.int (f1 p0)), .val (.int (f1 p1)), .val (.int (f1 p2)), .val (.int (f1 p3)), o9, .val (.int cc), .val (.int dd), .val (.ref b5), .val (.ref b7), .val (.int (0 : Int32)), .val (.int (1 : Int32)), .unset] [(.ref r49_r)])) t
              refine XS.astore X49.here hx rfl (hb hby at_256) rfl rfl (l' := #[.val (.int p0), .val (.int p1), .val (.int p2), .val (.int p3), .val (.int p4), .val (.int (f1 p0)), .val (.int (f1 p1)), .val (.int (f1 p2)), .val (.int (f1 p3)), o9, .val (.int cc), .val (.int dd), .val (.ref b5), .val (.ref b7), .val (.int (0 : Int32)), .val (.int (1 : Int32)), .val (.ref r49_r)]) rfl ?_
              show Steps p.tables e below (T49.setTop (mkF m 258 #[.val (.int p0), .val (.int p1), .val (.int p2), .val (.int p3), .val (.int p4), .val (.int (f1 p0)), .val (.int (f1 p1)), .val (.int (f1 p2)), .val (.int (f1 p3)), o9, .val (.int cc), .val (.int dd), .val (.ref b5), .val (.ref b7), .val (.int (0 : Int32)), .val (.int (1 : Int32)), .val (.ref r49_r)] [])) t
              refine XS.iload X49.here hx rfl (hb hby at_258) rfl ?_
              show Steps p.tables e below (T49.setTop (mkF m 260 #[.val (.int p0), .val (.int p1), .val (.int p2), .val (.int p3), .val (.int p4), .val (.int (f1 p0)), .val (.int (f1 p1)), .val (.int (f1 p2)), .val (.int (f1 p3)), o9, .val (.int cc), .val (.int dd), .val (.ref b5), .val (.ref b7), .val (.int (0 : Int32)), .val (.int (1 : Int32)), .val (.ref r49_r)] [(.int (1 : Int32))])) t
              refine XS.ifNo X49.here hx rfl (hb hby at_260) rfl ((if0 _ _).trans (feq (by decide : ¬ ((1 : Int32) = (0 : Int32)))).1) ?_
              show Steps p.tables e below (T49.setTop (mkF m 263 #[.val (.int p0), .val (.int p1), .val (.int p2), .val (.int p3), .val (.int p4), .val (.int (f1 p0)), .val (.int (f1 p1)), .val (.int (f1 p2)), .val (.int (f1 p3)), o9, .val (.int cc), .val (.int dd), .val (.ref b5), .val (.ref b7), .val (.int (0 : Int32)), .val (.int (1 : Int32)), .val (.ref r49_r)] [])) t
              refine XS.aload X49.here hx rfl (hb hby at_263) rfl rfl ?_
              show Steps p.tables e below (T49.setTop (mkF m 265 #[.val (.int p0), .val (.int p1), .val (.int p2), .val (.int p3), .val (.int p4), .val (.int (f1 p0)), .val (.int (f1 p1)), .val (.int (f1 p2)), .val (.int (f1 p3)), o9, .val (.int cc), .val (.int dd), .val (.ref b5), .val (.ref b7), .val (.int (0 : Int32)), .val (.int (1 : Int32)), .val (.ref r49_r)] [(.ref b5)])) t
              refine XS.aload X49.here hx rfl (hb hby at_265) rfl rfl ?_
              exact kt
            refine OGo.callV X49 hx hZ (y := (⟨"com/example/harlow/harlow/core/topology/NodePair", "equals", "(Ljava/lang/Object;)Z"⟩ : MethodName)) (z := (⟨"com/example/harlow/harlow/core/topology/NodePair", "equals", "(Ljava/lang/Object;)Z"⟩ : MethodName)) hown (own_wd hw 26 rfl) (own_wd hw 27 rfl) (notFace_of_selects (args := #[]) (mvT hZ (own_wd hw 29 rfl))) (own_wd hw 29 rfl) (own_wd hw 28 rfl) (own_wd hw 11 rfl) (own_wd hw 30 rfl) (by decide) (rm6n l Z az hw [] b5 r49_r T49.heap n0 (Nat.le_trans Z0 KC49.1) P49_0) (W := 0) (by decide) (by decide) (((P6_0.ext E7).keep K8).keep K49) (g := (mkF m 267 #[.val (.int p0), .val (.int p1), .val (.int p2), .val (.int p3), .val (.int p4), .val (.int (f1 p0)), .val (.int (f1 p1)), .val (.int (f1 p2)), .val (.int (f1 p3)), o9, .val (.int cc), .val (.int dd), .val (.ref b5), .val (.ref b7), .val (.int (0 : Int32)), .val (.int (1 : Int32)), .val (.ref r49_r)] [(.ref r49_r), (.ref b5)])) rfl (by rw [hml]; rfl) (argsL := [(.ref r49_r)]) (rest := []) (lenOf pd_0_2 rfl) rfl (by show 2 * 0 + _ ≤ _; exact Nat.le_of_eq rfl) (hb hby at_267) rfl rfl (by decide) (by decide) ?_
            rintro _ T50 L50 X50 ⟨hv50, Nq50, e50⟩
            have N50 := Fr.app N49 Nq50
            rw [show f6n = (0 : Int32) from rfl] at hv50
            subst hv50
            show OGo _ _ _ _ _ _ _ (T50.setTop (mkF m 270 #[.val (.int p0), .val (.int p1), .val (.int p2), .val (.int p3), .val (.int p4), .val (.int (f1 p0)), .val (.int (f1 p1)), .val (.int (f1 p2)), .val (.int (f1 p3)), o9, .val (.int cc), .val (.int dd), .val (.ref b5), .val (.ref b7), .val (.int (0 : Int32)), .val (.int (1 : Int32)), .val (.ref r49_r)] [(.int (0 : Int32))]))
            refine OGo.step (F' := T50.setTop (mkF m 282 #[.val (.int p0), .val (.int p1), .val (.int p2), .val (.int p3), .val (.int p4), .val (.int (f1 p0)), .val (.int (f1 p1)), .val (.int (f1 p2)), .val (.int (f1 p3)), o9, .val (.int cc), .val (.int dd), .val (.ref b5), .val (.ref b7), .val (.int (0 : Int32)), .val (.int (1 : Int32)), .val (.ref r49_r)] [(.int (1 : Int32))])) (fun t kt => ?_) ?_
            · show Steps p.tables e below (T50.setTop (mkF m 270 #[.val (.int p0), .val (.int p1), .val (.int p2), .val (.int p3), .val (.int p4), .val (.int (f1 p0)), .val (.int (f1 p1)), .val (.int (f1 p2)), .val (.int (f1 p3)), o9, .val (.int cc), .val (.int dd), .val (.ref b5), .val (.ref b7), .val (.int (0 : Int32)), .val (.int (1 : Int32)), .val (.ref r49_r)] [(.int (0 : Int32))])) t
              refine XS.ifNo X50.here hx rfl (hb hby at_270) rfl ((if0 _ _).trans (teq (by decide : (0 : Int32) = (0 : Int32))).2) ?_
              show Steps p.tables e below (T50.setTop (mkF m 273 #[.val (.int p0), .val (.int p1), .val (.int p2), .val (.int p3), .val (.int p4), .val (.int (f1 p0)), .val (.int (f1 p1)), .val (.int (f1 p2)), .val (.int (f1 p3)), o9, .val (.int cc), .val (.int dd), .val (.ref b5), .val (.ref b7), .val (.int (0 : Int32)), .val (.int (1 : Int32)), .val (.ref r49_r)] [])) t
              refine XS.iconst X50.here hx rfl (hb hby at_273) ?_
              show Steps p.tables e below (T50.setTop (mkF m 274 #[.val (.int p0), .val (.int p1), .val (.int p2), .val (.int p3), .val (.int p4), .val (.int (f1 p0)), .val (.int (f1 p1)), .val (.int (f1 p2)), .val (.int (f1 p3)), o9, .val (.int cc), .val (.int dd), .val (.ref b5), .val (.ref b7), .val (.int (0 : Int32)), .val (.int (1 : Int32)), .val (.ref r49_r)] [(.int (1 : Int32))])) t
              refine XS.goto X50.here hx rfl (pc0 := 274) (pc' := 278) rfl (hb hby at_274) (by decide) (by decide) ?_
              show Steps p.tables e below (T50.setTop (mkF m 278 #[.val (.int p0), .val (.int p1), .val (.int p2), .val (.int p3), .val (.int p4), .val (.int (f1 p0)), .val (.int (f1 p1)), .val (.int (f1 p2)), .val (.int (f1 p3)), o9, .val (.int cc), .val (.int dd), .val (.ref b5), .val (.ref b7), .val (.int (0 : Int32)), .val (.int (1 : Int32)), .val (.ref r49_r)] [(.int (1 : Int32))])) t
              refine XS.istore X50.here hx rfl (hb hby at_278) rfl (l' := #[.val (.int p0), .val (.int p1), .val (.int p2), .val (.int p3), .val (.int p4), .val (.int (f1 p0)), .val (.int (f1 p1)), .val (.int (f1 p2)), .val (.int (f1 p3)), o9, .val (.int cc), .val (.int dd), .val (.ref b5), .val (.ref b7), .val (.int (0 : Int32)), .val (.int (1 : Int32)), .val (.ref r49_r)]) rfl ?_
              show Steps p.tables e below (T50.setTop (mkF m 280 #[.val (.int p0), .val (.int p1), .val (.int p2), .val (.int p3), .val (.int p4), .val (.int (f1 p0)), .val (.int (f1 p1)), .val (.int (f1 p2)), .val (.int (f1 p3)), o9, .val (.int cc), .val (.int dd), .val (.ref b5), .val (.ref b7), .val (.int (0 : Int32)), .val (.int (1 : Int32)), .val (.ref r49_r)] [])) t
              refine XS.iload X50.here hx rfl (hb hby at_280) rfl ?_
              exact kt
            refine OGo.retZ X50 hx hlk (t := .boolean) (z' := (1 : Int32)) hret (by simp) (hb hby at_282) rfl ?_ (by decide) (by decide)
            show Q0 Z p0 p1 p2 p3 p4 w_high w_cache h0 n0 _ T50.heap _
            rw [e50]
            exact ⟨rfl, N50, KC49⟩
  refine OGo.step (F' := T4.setTop (mkF m 32 #[.val (.int p0), .val (.int p1), .val (.int p2), .val (.int p3), .val (.int p4), .val (.int (f1 p0)), .val (.int (f1 p1)), .val (.int (f1 p2)), .val (.int (f1 p3)), .val (.int (p4 &&& (3 : Int32))), .unset, .unset, .unset, .unset, .unset, .unset, .unset] [(.int (p4 &&& (3 : Int32)))])) (fun t kt => ?_) ?_
  · show Steps p.tables e below (T4.setTop (mkF m 24 #[.val (.int p0), .val (.int p1), .val (.int p2), .val (.int p3), .val (.int p4), .val (.int (f1 p0)), .val (.int (f1 p1)), .val (.int (f1 p2)), .val (.int (f1 p3)), .unset, .unset, .unset, .unset, .unset, .unset, .unset, .unset] [])) t
    refine XS.iload X4.here hx rfl (hb hby at_24) rfl ?_
    show Steps p.tables e below (T4.setTop (mkF m 26 #[.val (.int p0), .val (.int p1), .val (.int p2), .val (.int p3), .val (.int p4), .val (.int (f1 p0)), .val (.int (f1 p1)), .val (.int (f1 p2)), .val (.int (f1 p3)), .unset, .unset, .unset, .unset, .unset, .unset, .unset, .unset] [(.int p4)])) t
    refine XS.iconst X4.here hx rfl (hb hby at_26) ?_
    show Steps p.tables e below (T4.setTop (mkF m 27 #[.val (.int p0), .val (.int p1), .val (.int p2), .val (.int p3), .val (.int p4), .val (.int (f1 p0)), .val (.int (f1 p1)), .val (.int (f1 p2)), .val (.int (f1 p3)), .unset, .unset, .unset, .unset, .unset, .unset, .unset, .unset] [(.int (3 : Int32)), (.int p4)])) t
    refine XS.iand X4.here hx rfl (hb hby at_27) rfl ?_
    show Steps p.tables e below (T4.setTop (mkF m 28 #[.val (.int p0), .val (.int p1), .val (.int p2), .val (.int p3), .val (.int p4), .val (.int (f1 p0)), .val (.int (f1 p1)), .val (.int (f1 p2)), .val (.int (f1 p3)), .unset, .unset, .unset, .unset, .unset, .unset, .unset, .unset] [(.int (p4 &&& (3 : Int32)))])) t
    refine XS.istore X4.here hx rfl (hb hby at_28) rfl (l' := #[.val (.int p0), .val (.int p1), .val (.int p2), .val (.int p3), .val (.int p4), .val (.int (f1 p0)), .val (.int (f1 p1)), .val (.int (f1 p2)), .val (.int (f1 p3)), .val (.int (p4 &&& (3 : Int32))), .unset, .unset, .unset, .unset, .unset, .unset, .unset]) rfl ?_
    show Steps p.tables e below (T4.setTop (mkF m 30 #[.val (.int p0), .val (.int p1), .val (.int p2), .val (.int p3), .val (.int p4), .val (.int (f1 p0)), .val (.int (f1 p1)), .val (.int (f1 p2)), .val (.int (f1 p3)), .val (.int (p4 &&& (3 : Int32))), .unset, .unset, .unset, .unset, .unset, .unset, .unset] [])) t
    refine XS.iload X4.here hx rfl (hb hby at_30) rfl ?_
    exact kt
  by_cases hc32 : (p4 &&& (3 : Int32)) = (0 : Int32)
  · refine OGo.step (F' := T4.setTop (mkF m 35 #[.val (.int p0), .val (.int p1), .val (.int p2), .val (.int p3), .val (.int p4), .val (.int (f1 p0)), .val (.int (f1 p1)), .val (.int (f1 p2)), .val (.int (f1 p3)), .val (.int (p4 &&& (3 : Int32))), .unset, .unset, .unset, .unset, .unset, .unset, .unset] [])) (fun t kt => ?_) ?_
    · show Steps p.tables e below (T4.setTop (mkF m 32 #[.val (.int p0), .val (.int p1), .val (.int p2), .val (.int p3), .val (.int p4), .val (.int (f1 p0)), .val (.int (f1 p1)), .val (.int (f1 p2)), .val (.int (f1 p3)), .val (.int (p4 &&& (3 : Int32))), .unset, .unset, .unset, .unset, .unset, .unset, .unset] [(.int (p4 &&& (3 : Int32)))])) t
      refine XS.ifNo X4.here hx rfl (hb hby at_32) rfl ((if0 _ _).trans (teq hc32).2) ?_
      exact kt
    refine OGo.step (F' := T4.setTop (mkF m 88 #[.val (.int p0), .val (.int p1), .val (.int p2), .val (.int p3), .val (.int p4), .val (.int (f1 p0)), .val (.int (f1 p1)), .val (.int (f1 p2)), .val (.int (f1 p3)), .val (.int (p4 &&& (3 : Int32))), .val (.int (f1 p2)), .val (.int (f1 p3)), .unset, .unset, .unset, .unset, .unset] [])) (fun t kt => ?_) ?_
    · show Steps p.tables e below (T4.setTop (mkF m 35 #[.val (.int p0), .val (.int p1), .val (.int p2), .val (.int p3), .val (.int p4), .val (.int (f1 p0)), .val (.int (f1 p1)), .val (.int (f1 p2)), .val (.int (f1 p3)), .val (.int (p4 &&& (3 : Int32))), .unset, .unset, .unset, .unset, .unset, .unset, .unset] [])) t
      refine XS.iload X4.here hx rfl (hb hby at_35) rfl ?_
      show Steps p.tables e below (T4.setTop (mkF m 37 #[.val (.int p0), .val (.int p1), .val (.int p2), .val (.int p3), .val (.int p4), .val (.int (f1 p0)), .val (.int (f1 p1)), .val (.int (f1 p2)), .val (.int (f1 p3)), .val (.int (p4 &&& (3 : Int32))), .unset, .unset, .unset, .unset, .unset, .unset, .unset] [(.int (f1 p2))])) t
      refine XS.istore X4.here hx rfl (hb hby at_37) rfl (l' := #[.val (.int p0), .val (.int p1), .val (.int p2), .val (.int p3), .val (.int p4), .val (.int (f1 p0)), .val (.int (f1 p1)), .val (.int (f1 p2)), .val (.int (f1 p3)), .val (.int (p4 &&& (3 : Int32))), .val (.int (f1 p2)), .unset, .unset, .unset, .unset, .unset, .unset]) rfl ?_
      show Steps p.tables e below (T4.setTop (mkF m 39 #[.val (.int p0), .val (.int p1), .val (.int p2), .val (.int p3), .val (.int p4), .val (.int (f1 p0)), .val (.int (f1 p1)), .val (.int (f1 p2)), .val (.int (f1 p3)), .val (.int (p4 &&& (3 : Int32))), .val (.int (f1 p2)), .unset, .unset, .unset, .unset, .unset, .unset] [])) t
      refine XS.iload X4.here hx rfl (hb hby at_39) rfl ?_
      show Steps p.tables e below (T4.setTop (mkF m 41 #[.val (.int p0), .val (.int p1), .val (.int p2), .val (.int p3), .val (.int p4), .val (.int (f1 p0)), .val (.int (f1 p1)), .val (.int (f1 p2)), .val (.int (f1 p3)), .val (.int (p4 &&& (3 : Int32))), .val (.int (f1 p2)), .unset, .unset, .unset, .unset, .unset, .unset] [(.int (f1 p3))])) t
      refine XS.istore X4.here hx rfl (hb hby at_41) rfl (l' := #[.val (.int p0), .val (.int p1), .val (.int p2), .val (.int p3), .val (.int p4), .val (.int (f1 p0)), .val (.int (f1 p1)), .val (.int (f1 p2)), .val (.int (f1 p3)), .val (.int (p4 &&& (3 : Int32))), .val (.int (f1 p2)), .val (.int (f1 p3)), .unset, .unset, .unset, .unset, .unset]) rfl ?_
      show Steps p.tables e below (T4.setTop (mkF m 43 #[.val (.int p0), .val (.int p1), .val (.int p2), .val (.int p3), .val (.int p4), .val (.int (f1 p0)), .val (.int (f1 p1)), .val (.int (f1 p2)), .val (.int (f1 p3)), .val (.int (p4 &&& (3 : Int32))), .val (.int (f1 p2)), .val (.int (f1 p3)), .unset, .unset, .unset, .unset, .unset] [])) t
      refine XS.goto X4.here hx rfl (pc0 := 43) (pc' := 88) rfl (hb hby at_43) (by decide) (by decide) ?_
      exact kt
    exact J _ _ _ (own_node _) (own_node _)
  · refine OGo.step (F' := T4.setTop (mkF m 46 #[.val (.int p0), .val (.int p1), .val (.int p2), .val (.int p3), .val (.int p4), .val (.int (f1 p0)), .val (.int (f1 p1)), .val (.int (f1 p2)), .val (.int (f1 p3)), .val (.int (p4 &&& (3 : Int32))), .unset, .unset, .unset, .unset, .unset, .unset, .unset] [])) (fun t kt => ?_) ?_
    · show Steps p.tables e below (T4.setTop (mkF m 32 #[.val (.int p0), .val (.int p1), .val (.int p2), .val (.int p3), .val (.int p4), .val (.int (f1 p0)), .val (.int (f1 p1)), .val (.int (f1 p2)), .val (.int (f1 p3)), .val (.int (p4 &&& (3 : Int32))), .unset, .unset, .unset, .unset, .unset, .unset, .unset] [(.int (p4 &&& (3 : Int32)))])) t
      refine XS.ifYes X4.here hx rfl (pc0 := 32) (pc' := 46) rfl (hb hby at_32) rfl ((if0 _ _).trans (feq hc32).2) (by decide) (by decide) ?_
      exact kt
    refine OGo.step (F' := T4.setTop (mkF m 49 #[.val (.int p0), .val (.int p1), .val (.int p2), .val (.int p3), .val (.int p4), .val (.int (f1 p0)), .val (.int (f1 p1)), .val (.int (f1 p2)), .val (.int (f1 p3)), .val (.int (p4 &&& (3 : Int32))), .unset, .unset, .unset, .unset, .unset, .unset, .unset] [(.int (1 : Int32)), (.int (p4 &&& (3 : Int32)))])) (fun t kt => ?_) ?_
    · show Steps p.tables e below (T4.setTop (mkF m 46 #[.val (.int p0), .val (.int p1), .val (.int p2), .val (.int p3), .val (.int p4), .val (.int (f1 p0)), .val (.int (f1 p1)), .val (.int (f1 p2)), .val (.int (f1 p3)), .val (.int (p4 &&& (3 : Int32))), .unset, .unset, .unset, .unset, .unset, .unset, .unset] [])) t
      refine XS.iload X4.here hx rfl (hb hby at_46) rfl ?_
      show Steps p.tables e below (T4.setTop (mkF m 48 #[.val (.int p0), .val (.int p1), .val (.int p2), .val (.int p3), .val (.int p4), .val (.int (f1 p0)), .val (.int (f1 p1)), .val (.int (f1 p2)), .val (.int (f1 p3)), .val (.int (p4 &&& (3 : Int32))), .unset, .unset, .unset, .unset, .unset, .unset, .unset] [(.int (p4 &&& (3 : Int32)))])) t
      refine XS.iconst X4.here hx rfl (hb hby at_48) ?_
      exact kt
    by_cases hc49 : (p4 &&& (3 : Int32)) = (1 : Int32)
    · refine OGo.step (F' := T4.setTop (mkF m 52 #[.val (.int p0), .val (.int p1), .val (.int p2), .val (.int p3), .val (.int p4), .val (.int (f1 p0)), .val (.int (f1 p1)), .val (.int (f1 p2)), .val (.int (f1 p3)), .val (.int (p4 &&& (3 : Int32))), .unset, .unset, .unset, .unset, .unset, .unset, .unset] [])) (fun t kt => ?_) ?_
      · show Steps p.tables e below (T4.setTop (mkF m 49 #[.val (.int p0), .val (.int p1), .val (.int p2), .val (.int p3), .val (.int p4), .val (.int (f1 p0)), .val (.int (f1 p1)), .val (.int (f1 p2)), .val (.int (f1 p3)), .val (.int (p4 &&& (3 : Int32))), .unset, .unset, .unset, .unset, .unset, .unset, .unset] [(.int (1 : Int32)), (.int (p4 &&& (3 : Int32)))])) t
        refine XS.icmpNo X4.here hx rfl (hb hby at_49) rfl (teq hc49).2 ?_
        exact kt
      refine OGo.step (F' := T4.setTop (mkF m 88 #[.val (.int p0), .val (.int p1), .val (.int p2), .val (.int p3), .val (.int p4), .val (.int (f1 p0)), .val (.int (f1 p1)), .val (.int (f1 p2)), .val (.int (f1 p3)), .val (.int (p4 &&& (3 : Int32))), .val (.int (f1 p0)), .val (.int (f1 p1)), .unset, .unset, .unset, .unset, .unset] [])) (fun t kt => ?_) ?_
      · show Steps p.tables e below (T4.setTop (mkF m 52 #[.val (.int p0), .val (.int p1), .val (.int p2), .val (.int p3), .val (.int p4), .val (.int (f1 p0)), .val (.int (f1 p1)), .val (.int (f1 p2)), .val (.int (f1 p3)), .val (.int (p4 &&& (3 : Int32))), .unset, .unset, .unset, .unset, .unset, .unset, .unset] [])) t
        refine XS.iload X4.here hx rfl (hb hby at_52) rfl ?_
        show Steps p.tables e below (T4.setTop (mkF m 54 #[.val (.int p0), .val (.int p1), .val (.int p2), .val (.int p3), .val (.int p4), .val (.int (f1 p0)), .val (.int (f1 p1)), .val (.int (f1 p2)), .val (.int (f1 p3)), .val (.int (p4 &&& (3 : Int32))), .unset, .unset, .unset, .unset, .unset, .unset, .unset] [(.int (f1 p0))])) t
        refine XS.istore X4.here hx rfl (hb hby at_54) rfl (l' := #[.val (.int p0), .val (.int p1), .val (.int p2), .val (.int p3), .val (.int p4), .val (.int (f1 p0)), .val (.int (f1 p1)), .val (.int (f1 p2)), .val (.int (f1 p3)), .val (.int (p4 &&& (3 : Int32))), .val (.int (f1 p0)), .unset, .unset, .unset, .unset, .unset, .unset]) rfl ?_
        show Steps p.tables e below (T4.setTop (mkF m 56 #[.val (.int p0), .val (.int p1), .val (.int p2), .val (.int p3), .val (.int p4), .val (.int (f1 p0)), .val (.int (f1 p1)), .val (.int (f1 p2)), .val (.int (f1 p3)), .val (.int (p4 &&& (3 : Int32))), .val (.int (f1 p0)), .unset, .unset, .unset, .unset, .unset, .unset] [])) t
        refine XS.iload X4.here hx rfl (hb hby at_56) rfl ?_
        show Steps p.tables e below (T4.setTop (mkF m 58 #[.val (.int p0), .val (.int p1), .val (.int p2), .val (.int p3), .val (.int p4), .val (.int (f1 p0)), .val (.int (f1 p1)), .val (.int (f1 p2)), .val (.int (f1 p3)), .val (.int (p4 &&& (3 : Int32))), .val (.int (f1 p0)), .unset, .unset, .unset, .unset, .unset, .unset] [(.int (f1 p1))])) t
        refine XS.istore X4.here hx rfl (hb hby at_58) rfl (l' := #[.val (.int p0), .val (.int p1), .val (.int p2), .val (.int p3), .val (.int p4), .val (.int (f1 p0)), .val (.int (f1 p1)), .val (.int (f1 p2)), .val (.int (f1 p3)), .val (.int (p4 &&& (3 : Int32))), .val (.int (f1 p0)), .val (.int (f1 p1)), .unset, .unset, .unset, .unset, .unset]) rfl ?_
        show Steps p.tables e below (T4.setTop (mkF m 60 #[.val (.int p0), .val (.int p1), .val (.int p2), .val (.int p3), .val (.int p4), .val (.int (f1 p0)), .val (.int (f1 p1)), .val (.int (f1 p2)), .val (.int (f1 p3)), .val (.int (p4 &&& (3 : Int32))), .val (.int (f1 p0)), .val (.int (f1 p1)), .unset, .unset, .unset, .unset, .unset] [])) t
        refine XS.goto X4.here hx rfl (pc0 := 60) (pc' := 88) rfl (hb hby at_60) (by decide) (by decide) ?_
        exact kt
      exact J _ _ _ (own_node _) (own_node _)
    · refine OGo.step (F' := T4.setTop (mkF m 63 #[.val (.int p0), .val (.int p1), .val (.int p2), .val (.int p3), .val (.int p4), .val (.int (f1 p0)), .val (.int (f1 p1)), .val (.int (f1 p2)), .val (.int (f1 p3)), .val (.int (p4 &&& (3 : Int32))), .unset, .unset, .unset, .unset, .unset, .unset, .unset] [])) (fun t kt => ?_) ?_
      · show Steps p.tables e below (T4.setTop (mkF m 49 #[.val (.int p0), .val (.int p1), .val (.int p2), .val (.int p3), .val (.int p4), .val (.int (f1 p0)), .val (.int (f1 p1)), .val (.int (f1 p2)), .val (.int (f1 p3)), .val (.int (p4 &&& (3 : Int32))), .unset, .unset, .unset, .unset, .unset, .unset, .unset] [(.int (1 : Int32)), (.int (p4 &&& (3 : Int32)))])) t
        refine XS.icmpYes X4.here hx rfl (pc0 := 49) (pc' := 63) rfl (hb hby at_49) rfl (feq hc49).2 (by decide) (by decide) ?_
        exact kt
      refine OGo.step (F' := T4.setTop (mkF m 66 #[.val (.int p0), .val (.int p1), .val (.int p2), .val (.int p3), .val (.int p4), .val (.int (f1 p0)), .val (.int (f1 p1)), .val (.int (f1 p2)), .val (.int (f1 p3)), .val (.int (p4 &&& (3 : Int32))), .unset, .unset, .unset, .unset, .unset, .unset, .unset] [(.int (2 : Int32)), (.int (p4 &&& (3 : Int32)))])) (fun t kt => ?_) ?_
      · show Steps p.tables e below (T4.setTop (mkF m 63 #[.val (.int p0), .val (.int p1), .val (.int p2), .val (.int p3), .val (.int p4), .val (.int (f1 p0)), .val (.int (f1 p1)), .val (.int (f1 p2)), .val (.int (f1 p3)), .val (.int (p4 &&& (3 : Int32))), .unset, .unset, .unset, .unset, .unset, .unset, .unset] [])) t
        refine XS.iload X4.here hx rfl (hb hby at_63) rfl ?_
        show Steps p.tables e below (T4.setTop (mkF m 65 #[.val (.int p0), .val (.int p1), .val (.int p2), .val (.int p3), .val (.int p4), .val (.int (f1 p0)), .val (.int (f1 p1)), .val (.int (f1 p2)), .val (.int (f1 p3)), .val (.int (p4 &&& (3 : Int32))), .unset, .unset, .unset, .unset, .unset, .unset, .unset] [(.int (p4 &&& (3 : Int32)))])) t
        refine XS.iconst X4.here hx rfl (hb hby at_65) ?_
        exact kt
      by_cases hc66 : (p4 &&& (3 : Int32)) = (2 : Int32)
      · refine OGo.step (F' := T4.setTop (mkF m 69 #[.val (.int p0), .val (.int p1), .val (.int p2), .val (.int p3), .val (.int p4), .val (.int (f1 p0)), .val (.int (f1 p1)), .val (.int (f1 p2)), .val (.int (f1 p3)), .val (.int (p4 &&& (3 : Int32))), .unset, .unset, .unset, .unset, .unset, .unset, .unset] [])) (fun t kt => ?_) ?_
        · show Steps p.tables e below (T4.setTop (mkF m 66 #[.val (.int p0), .val (.int p1), .val (.int p2), .val (.int p3), .val (.int p4), .val (.int (f1 p0)), .val (.int (f1 p1)), .val (.int (f1 p2)), .val (.int (f1 p3)), .val (.int (p4 &&& (3 : Int32))), .unset, .unset, .unset, .unset, .unset, .unset, .unset] [(.int (2 : Int32)), (.int (p4 &&& (3 : Int32)))])) t
          refine XS.icmpNo X4.here hx rfl (hb hby at_66) rfl (teq hc66).2 ?_
          exact kt
        refine OGo.step (F' := T4.setTop (mkF m 88 #[.val (.int p0), .val (.int p1), .val (.int p2), .val (.int p3), .val (.int p4), .val (.int (f1 p0)), .val (.int (f1 p1)), .val (.int (f1 p2)), .val (.int (f1 p3)), .val (.int (p4 &&& (3 : Int32))), .val (.int (f1 p1)), .val (.int (f1 p0)), .unset, .unset, .unset, .unset, .unset] [])) (fun t kt => ?_) ?_
        · show Steps p.tables e below (T4.setTop (mkF m 69 #[.val (.int p0), .val (.int p1), .val (.int p2), .val (.int p3), .val (.int p4), .val (.int (f1 p0)), .val (.int (f1 p1)), .val (.int (f1 p2)), .val (.int (f1 p3)), .val (.int (p4 &&& (3 : Int32))), .unset, .unset, .unset, .unset, .unset, .unset, .unset] [])) t
          refine XS.iload X4.here hx rfl (hb hby at_69) rfl ?_
          show Steps p.tables e below (T4.setTop (mkF m 71 #[.val (.int p0), .val (.int p1), .val (.int p2), .val (.int p3), .val (.int p4), .val (.int (f1 p0)), .val (.int (f1 p1)), .val (.int (f1 p2)), .val (.int (f1 p3)), .val (.int (p4 &&& (3 : Int32))), .unset, .unset, .unset, .unset, .unset, .unset, .unset] [(.int (f1 p1))])) t
          refine XS.istore X4.here hx rfl (hb hby at_71) rfl (l' := #[.val (.int p0), .val (.int p1), .val (.int p2), .val (.int p3), .val (.int p4), .val (.int (f1 p0)), .val (.int (f1 p1)), .val (.int (f1 p2)), .val (.int (f1 p3)), .val (.int (p4 &&& (3 : Int32))), .val (.int (f1 p1)), .unset, .unset, .unset, .unset, .unset, .unset]) rfl ?_
          show Steps p.tables e below (T4.setTop (mkF m 73 #[.val (.int p0), .val (.int p1), .val (.int p2), .val (.int p3), .val (.int p4), .val (.int (f1 p0)), .val (.int (f1 p1)), .val (.int (f1 p2)), .val (.int (f1 p3)), .val (.int (p4 &&& (3 : Int32))), .val (.int (f1 p1)), .unset, .unset, .unset, .unset, .unset, .unset] [])) t
          refine XS.iload X4.here hx rfl (hb hby at_73) rfl ?_
          show Steps p.tables e below (T4.setTop (mkF m 75 #[.val (.int p0), .val (.int p1), .val (.int p2), .val (.int p3), .val (.int p4), .val (.int (f1 p0)), .val (.int (f1 p1)), .val (.int (f1 p2)), .val (.int (f1 p3)), .val (.int (p4 &&& (3 : Int32))), .val (.int (f1 p1)), .unset, .unset, .unset, .unset, .unset, .unset] [(.int (f1 p0))])) t
          refine XS.istore X4.here hx rfl (hb hby at_75) rfl (l' := #[.val (.int p0), .val (.int p1), .val (.int p2), .val (.int p3), .val (.int p4), .val (.int (f1 p0)), .val (.int (f1 p1)), .val (.int (f1 p2)), .val (.int (f1 p3)), .val (.int (p4 &&& (3 : Int32))), .val (.int (f1 p1)), .val (.int (f1 p0)), .unset, .unset, .unset, .unset, .unset]) rfl ?_
          show Steps p.tables e below (T4.setTop (mkF m 77 #[.val (.int p0), .val (.int p1), .val (.int p2), .val (.int p3), .val (.int p4), .val (.int (f1 p0)), .val (.int (f1 p1)), .val (.int (f1 p2)), .val (.int (f1 p3)), .val (.int (p4 &&& (3 : Int32))), .val (.int (f1 p1)), .val (.int (f1 p0)), .unset, .unset, .unset, .unset, .unset] [])) t
          refine XS.goto X4.here hx rfl (pc0 := 77) (pc' := 88) rfl (hb hby at_77) (by decide) (by decide) ?_
          exact kt
        exact J _ _ _ (own_node _) (own_node _)
      · refine OGo.step (F' := T4.setTop (mkF m 80 #[.val (.int p0), .val (.int p1), .val (.int p2), .val (.int p3), .val (.int p4), .val (.int (f1 p0)), .val (.int (f1 p1)), .val (.int (f1 p2)), .val (.int (f1 p3)), .val (.int (p4 &&& (3 : Int32))), .unset, .unset, .unset, .unset, .unset, .unset, .unset] [])) (fun t kt => ?_) ?_
        · show Steps p.tables e below (T4.setTop (mkF m 66 #[.val (.int p0), .val (.int p1), .val (.int p2), .val (.int p3), .val (.int p4), .val (.int (f1 p0)), .val (.int (f1 p1)), .val (.int (f1 p2)), .val (.int (f1 p3)), .val (.int (p4 &&& (3 : Int32))), .unset, .unset, .unset, .unset, .unset, .unset, .unset] [(.int (2 : Int32)), (.int (p4 &&& (3 : Int32)))])) t
          refine XS.icmpYes X4.here hx rfl (pc0 := 66) (pc' := 80) rfl (hb hby at_66) rfl (feq hc66).2 (by decide) (by decide) ?_
          exact kt
        refine OGo.step (F' := T4.setTop (mkF m 88 #[.val (.int p0), .val (.int p1), .val (.int p2), .val (.int p3), .val (.int p4), .val (.int (f1 p0)), .val (.int (f1 p1)), .val (.int (f1 p2)), .val (.int (f1 p3)), .val (.int (p4 &&& (3 : Int32))), .val (.int (f1 p0)), .val (.int (f1 p3)), .unset, .unset, .unset, .unset, .unset] [])) (fun t kt => ?_) ?_
        · show Steps p.tables e below (T4.setTop (mkF m 80 #[.val (.int p0), .val (.int p1), .val (.int p2), .val (.int p3), .val (.int p4), .val (.int (f1 p0)), .val (.int (f1 p1)), .val (.int (f1 p2)), .val (.int (f1 p3)), .val (.int (p4 &&& (3 : Int32))), .unset, .unset, .unset, .unset, .unset, .unset, .unset] [])) t
          refine XS.iload X4.here hx rfl (hb hby at_80) rfl ?_
          show Steps p.tables e below (T4.setTop (mkF m 82 #[.val (.int p0), .val (.int p1), .val (.int p2), .val (.int p3), .val (.int p4), .val (.int (f1 p0)), .val (.int (f1 p1)), .val (.int (f1 p2)), .val (.int (f1 p3)), .val (.int (p4 &&& (3 : Int32))), .unset, .unset, .unset, .unset, .unset, .unset, .unset] [(.int (f1 p0))])) t
          refine XS.istore X4.here hx rfl (hb hby at_82) rfl (l' := #[.val (.int p0), .val (.int p1), .val (.int p2), .val (.int p3), .val (.int p4), .val (.int (f1 p0)), .val (.int (f1 p1)), .val (.int (f1 p2)), .val (.int (f1 p3)), .val (.int (p4 &&& (3 : Int32))), .val (.int (f1 p0)), .unset, .unset, .unset, .unset, .unset, .unset]) rfl ?_
          show Steps p.tables e below (T4.setTop (mkF m 84 #[.val (.int p0), .val (.int p1), .val (.int p2), .val (.int p3), .val (.int p4), .val (.int (f1 p0)), .val (.int (f1 p1)), .val (.int (f1 p2)), .val (.int (f1 p3)), .val (.int (p4 &&& (3 : Int32))), .val (.int (f1 p0)), .unset, .unset, .unset, .unset, .unset, .unset] [])) t
          refine XS.iload X4.here hx rfl (hb hby at_84) rfl ?_
          show Steps p.tables e below (T4.setTop (mkF m 86 #[.val (.int p0), .val (.int p1), .val (.int p2), .val (.int p3), .val (.int p4), .val (.int (f1 p0)), .val (.int (f1 p1)), .val (.int (f1 p2)), .val (.int (f1 p3)), .val (.int (p4 &&& (3 : Int32))), .val (.int (f1 p0)), .unset, .unset, .unset, .unset, .unset, .unset] [(.int (f1 p3))])) t
          refine XS.istore X4.here hx rfl (hb hby at_86) rfl (l' := #[.val (.int p0), .val (.int p1), .val (.int p2), .val (.int p3), .val (.int p4), .val (.int (f1 p0)), .val (.int (f1 p1)), .val (.int (f1 p2)), .val (.int (f1 p3)), .val (.int (p4 &&& (3 : Int32))), .val (.int (f1 p0)), .val (.int (f1 p3)), .unset, .unset, .unset, .unset, .unset]) rfl ?_
          exact kt
        exact J _ _ _ (own_node _) (own_node _)
theorem own_cache {args : Array Value} {Z : State} {C n d : String} {a : Addr} {cl : Cell} {X : Jvm.Cond} (ev : (Term.static C n d).eval args Z none [] Z = some (.ref a)) (A : Arr Z Z.heap a cl (.object "java/lang/Integer")) (zz : cl.slots.size = 256)
    (q : (Jvm.Cond.all (Term.static C n d) (Jvm.Cond.and (Jvm.Cond.exactly (Term.elem (Term.static C n d) (Term.index 0)) "java/lang/Integer") X)).value args Z none Z [] = some true) : OCache Z Z.heap a := by
  have hat := A.fin (Vm.Alike.refl _)
  refine ⟨cl, A, zz, fun j hj => ?_⟩
  obtain ⟨q1, -⟩ := and_e (Cond.all_elim ev hat q j (by rw [zz]; exact hj))
  obtain ⟨r, cI, cell, k, e1, e2, e3, e4, e5, rfl, e7⟩ := Cond.exactly_spec (beq_iff_eq.mpr q1 : (Jvm.Cond.exactly (Term.elem (Term.static C n d) (Term.index 0)) "java/lang/Integer").holds args Z none Z [j] = true)
  have ev' : (Term.static C n d).eval args Z none [j] Z = some (.ref a) := by simpa [Term.eval] using ev
  have jx : (Term.index 0).eval args Z none [j] Z = some (.int j.toInt32) := rfl
  have ji : j.toInt32.toInt = j := len_toInt (by omega)
  have jn : ¬ j.toInt32 < 0 := by rw [Int32.lt_iff_toInt_lt, ji]; simp only [Int32.reduceToInt]; omega
  have jk : j.toInt32.toNatClampNeg = j := by simp only [Int32.toNatClampNeg, ji]; omega
  rw [elem_f ev' jx hat jn, jk] at e1
  exact ⟨r, e1, cell, k, e3, e2, e4, e5, e7⟩
set_option maxRecDepth 65536 in
set_option maxHeartbeats 40000000 in
theorem comes_1 {Post : Tables → Env → Array Value → State → Outcome → State → Prop} (hpost : ∀ tb e args s v u, (limb_1_1.after args s (.returned v) u = true ∧ limb_1_2.after args s (.returned v) u = true ∧ True) → FrameEnd s (.returned v) u (Jvm.fieldLocs frame_1_writes args s ++ Jvm.arrayLocs frame_1_arrays args s ++ Jvm.staticLocs frame_1_statics s) 16 128 → Post tb e args s (.returned v) u) :
    ArmFor flags0 classFile x code maxLocals ret World_1 tables_1 room_1 Calls_1 rest_1 Pre_1 Post := by
  intro l hfl _ _ p e ha hc hk s m args below hf hA hF happ hP
  obtain ⟨hcalls, hrest, hpre⟩ := hP
  obtain ⟨-, -, -, hnamed, -, -, -, hat⟩ := (Spec.applies_iff hf).mp happ
  obtain ⟨hg, hn⟩ := and_e (Cond.before_iff.mp (show (Jvm.Cond.and given_1 narrow_1).before args s = true from hpre))
  obtain ⟨gc, gr0⟩ := and_e hg
  obtain ⟨ga0, gr1⟩ := and_e gr0
  obtain ⟨ga1, gr2⟩ := and_e gr1
  obtain ⟨ga2, gr3⟩ := and_e gr2
  obtain ⟨ga3, gr4⟩ := and_e gr3
  have ga4 := gr4
  obtain ⟨w0, w1, w2, w3, w4, rfl⟩ : ∃ w0 w1 w2 w3 w4 : Value, args = #[w0, w1, w2, w3, w4] := by
    have hs : args.size = 5 := by simpa [Cond.value, given_1] using gc
    obtain ⟨L⟩ := args
    match L, hs with
    | [w0, w1, w2, w3, w4], _ => exact ⟨w0, w1, w2, w3, w4, rfl⟩
  have hw := fun d (hd : d ∈ tables_1) => atoms_spec (ws := Jvm.Cond.code x code maxLocals ret :: tables_1) hat d (List.mem_cons_of_mem _ hd)
  have hfit : Fit s := fun {y c} hc i hi => by
    obtain ⟨ha, rfl⟩ := Array.getElem?_eq_some_iff.mp hc
    have q := List.all_eq_true.mp ((Array.all_eq_true_iff_forall_mem.mp hF) _ (Array.getElem_mem ha)) i (List.mem_range.mpr hi)
    simpa [Array.getElem?_eq_getElem hi] using q
  obtain ⟨hsets, hown0⟩ := atoms_of _ (rest_1_c_eq ▸ (show rest_1_c.before _ s = true from hrest))
  obtain ⟨i0, ei0⟩ := is_v ga0
  obtain rfl : w0 = (.int i0) := Option.some.inj ei0
  obtain ⟨i1, ei1⟩ := is_v ga1
  obtain rfl : w1 = (.int i1) := Option.some.inj ei1
  obtain ⟨i2, ei2⟩ := is_v ga2
  obtain rfl : w2 = (.int i2) := Option.some.inj ei2
  obtain ⟨i3, ei3⟩ := is_v ga3
  obtain rfl : w3 = (.int i3) := Option.some.inj ei3
  obtain ⟨i4, ei4⟩ := is_v ga4
  obtain rfl : w4 = (.int i4) := Option.some.inj ei4
  have hs := fun (i : Nat) {d : Jvm.Cond} (q : jdkStatics_1[i]? = some d) => hsets d (List.mem_of_getElem? q)
  have evH := own_eqi (Cond.before_iff.mp (hs 3 rfl))
  have S_high : Sta s s.heap "java/lang/Integer$IntegerCache" "high" "I" (.int (127 : Int32)) := Sta.start evH (Or.inl (hs 1 rfl))
  obtain ⟨w_cache, evC2⟩ := arr_v (Cond.before_iff.mp (hs 4 rfl))
  have S_cache : Sta s s.heap "java/lang/Integer$IntegerCache" "cache" "[Ljava/lang/Integer;" (.ref w_cache) := Sta.start evC2 (Or.inr ⟨(own_wd hw 38 rfl), hs 2 rfl⟩)
  obtain ⟨clC, AC⟩ := Arr.start evC2 (Cond.before_iff.mp (hs 4 rfl))
  have atC := AC.fin (Vm.Alike.refl _)
  obtain ⟨z1, z2⟩ := own_lenz evC2 atC (own_eqi (Cond.before_iff.mp (hs 6 rfl)))
  have zz : clC.slots.size = 256 := by have := len_toInt z1; rw [z2] at this; simp only [Int32.reduceToInt] at this; omega
  have Ca : OCache s s.heap w_cache := own_cache evC2 AC zz (Cond.before_iff.mp (hs 7 rfl))
  have hHi : (127 : Int32) = (127 : Int32) := rfl
  obtain ⟨n, o, h1, h2, h3, _, L, rfl, ⟨hv, N, -⟩, hq⟩ := rm0 l s _ hw tables_1 i0 i1 i2 i3 i4 (127 : Int32) w_cache s.heap s.heap.size (Nat.le_refl _) S_high S_cache hHi Ca p e ha hc hk s m _ below hf ((Spec.applies_iff_loose hf).mp happ).1 ⟨rfl, State.Warmed39.refl s, rfl⟩ trivial
  subst hv
  refine ⟨n, _, h1, h2, h3, hpost _ _ _ _ _ _ ⟨Cond.after_iff.mpr rfl, Cond.after_iff.mpr (eq_i res_at (Term.int_eval (1)) rfl), trivial⟩ ⟨hq.1, hq.2.1, (hq.2.2.sift fun y hy => Or.inr (N y hy)).mono (by decide) (by decide)⟩⟩
theorem main_1_1 : Claimed_1_1 := comes_1 fun _ _ _ _ _ _ h hF => ⟨h.1, hF⟩
theorem main_1_2 : Claimed_1_2 := comes_1 fun _ _ _ _ _ _ h hF => ⟨h.2.1, hF⟩
end Jvm.Pilot.@@N@@
namespace Jvm.Pilot.@@N@@
open Jvm Jvm.ClassFile Sem Op Lib Jvm.Free Jvm.Stand Jvm.Pilot.@@N@@.Jvm.D
/-! MADE BY PROGRAM (witnessworld.py) out of the Statement's table words and the real class files: 17 classes; the members and pool entries that the words name. The judged class is class 1, her method 2. -/
namespace start1
open Jvm.ClassFile
def u (s : String) : CpInfo := .utf8 (stringToUtf16 s)
/-- a pool by its gaps: so many unusable entries, then the entry; so many at the end -/
def gap : Nat → List CpInfo → List CpInfo
  | 0, r => r
  | n + 1, r => .unusable :: gap n r
def poolList (es : List (Nat × CpInfo)) (last : Nat) : List CpInfo := es.foldr (fun e r => gap e.1 (e.2 :: r)) (gap last [])
def pool (es : List (Nat × CpInfo)) (last : Nat) : Array CpInfo := ⟨poolList es last⟩
def fileOf (pool : Array CpInfo) (this : Nat) (attrs : Array Attribute := #[]) (ms : Array MethodInfo := #[]) (fl : Nat := 33) (sup : Nat := 0) (ifs : Array Nat := #[]) (fds : Array FieldInfo := #[]) : ClassFile where
  minorVersion := 0
  majorVersion := 65
  constantPool := pool
  accessFlags := fl
  thisClass := this
  superClass := sup
  interfaces := ifs
  fields := fds
  methods := ms
  attributes := attrs
def plain (name : String) (sup : Option ClassId) : Class where
  name := name
  kind := .ordinary
  loader := none
  accessFlags := 33
  super := sup
  interfaces := #[]
  cf := none
  fields := #[]
  methods := #[]
  instanceTypes := #[]
  staticTypes := #[]
  resolved := #[]
  callSites := []
  init := .initialized
  statics := none
  mirror := none

def pool0 : Array CpInfo := pool [(5, u "<init>"), (0, u "()V"), (1, .class_ 10), (1, u "java/lang/Object")] 113

def k0c0 : Code := { maxStack := 0, maxLocals := 1, code := object_method_1_code, exceptionTable := #[], attributes := #[] }
def k0m0 : Method := { name := "<init>", desc := "()V", sig := { parameters := [], returnType := none }, accessFlags := 1, code := some k0c0 }
/-- java/lang/Object -/
def k0 : Class := { plain "java/lang/Object" none with
  accessFlags := 33
  interfaces := #[]
  cf := some (fileOf pool0 8 #[] #[{ accessFlags := 1, nameIndex := 5, descriptorIndex := 6, attributes := #[] }] 33 0 #[] #[])
  fields := #[]
  methods := #[k0m0]
  instanceTypes := #[]
  staticTypes := #[]
  resolved := Array.replicate 124 none
  statics := none }

def pool1 : Array CpInfo := pool [(2, .class_ 4), (1, u "java/lang/Object"), (0, u "<init>"), (0, u "()V"), (0, .integer 2147483647), (0, .methodref 9 10), (0, .class_ 11), (0, .nameAndType 12 13), (0, u "java/lang/Math"), (0, u "max"), (0, u "(II)I"), (0, .methodref 15 16), (0, .class_ 17), (0, .nameAndType 18 19), (0, u "com/example/harlow/harlow/core/topology/NodePairEqualsPinLaw"), (0, u "node"), (0, u "(I)I"), (0, .class_ 21), (0, u "com/example/harlow/harlow/core/topology/NodePair"), (0, .methodref 20 23), (0, .nameAndType 5 24), (0, u "(II)V"), (0, .methodref 20 26), (0, .nameAndType 27 28), (0, u "equals"), (0, u "(Ljava/lang/Object;)Z"), (0, .methodref 30 31), (0, .class_ 32), (0, .nameAndType 33 34), (0, u "java/lang/Integer"), (0, u "valueOf"), (0, u "(I)Ljava/lang/Integer;"), (2, u "law"), (0, u "(IIIII)Z")] 3

def k1m0 : Method := { name := "<init>", desc := "()V", sig := { parameters := [], returnType := none }, accessFlags := 1, code := none }
def k1c1 : Code := { maxStack := 3, maxLocals := 1, code := method_2_code, exceptionTable := #[], attributes := #[] }
def k1m1 : Method := { name := "node", desc := "(I)I", sig := { parameters := [.int], returnType := some .int }, accessFlags := 10, code := some k1c1 }
def k1c2 : Code := { maxStack := 4, maxLocals := 17, code := code, exceptionTable := #[], attributes := #[] }
def k1m2 : Method := { name := "law", desc := "(IIIII)Z", sig := { parameters := [.int, .int, .int, .int, .int], returnType := some .boolean }, accessFlags := 9, code := some k1c2 }
/-- com/example/harlow/harlow/core/topology/NodePairEqualsPinLaw -/
def k1 : Class := { plain "com/example/harlow/harlow/core/topology/NodePairEqualsPinLaw" (some 0) with
  accessFlags := 49
  interfaces := #[]
  cf := some (fileOf pool1 15 #[] #[{ accessFlags := 1, nameIndex := 5, descriptorIndex := 6, attributes := #[] }, { accessFlags := 10, nameIndex := 18, descriptorIndex := 19, attributes := #[] }, { accessFlags := 9, nameIndex := 37, descriptorIndex := 38, attributes := #[] }] 49 2 #[] #[])
  fields := #[]
  methods := #[k1m0, k1m1, k1m2]
  instanceTypes := #[]
  staticTypes := #[]
  resolved := Array.replicate 42 none
  statics := none }

def pool2 : Array CpInfo := pool [(1, .class_ 2), (0, u "java/lang/Math"), (1, .class_ 6), (1, u "java/lang/Object"), (0, u "<init>"), (0, u "()V"), (89, .class_ 100), (1, u "java/lang/Math$RandomNumberGeneratorHolder"), (71, u "negativeZeroFloatBits"), (0, u "J"), (2, u "negativeZeroDoubleBits"), (21, u "max"), (2, u "min"), (43, u "$assertionsDisabled"), (0, u "Z"), (88, u "(II)I"), (2, u "twoToTheDoubleScaleDown"), (0, u "D"), (4, u "twoToTheDoubleScaleUp"), (9, u "E"), (3, u "PI"), (2, u "TAU"), (2, u "DEGREES_TO_RADIANS"), (0, u "RADIANS_TO_DEGREES")] 94

def k2m0 : Method := { name := "<init>", desc := "()V", sig := { parameters := [], returnType := none }, accessFlags := 2, code := none }
def k2c1 : Code := { maxStack := 2, maxLocals := 2, code := jdk_29_method_65_code, exceptionTable := #[], attributes := #[] }
def k2m1 : Method := { name := "max", desc := "(II)I", sig := { parameters := [.int, .int], returnType := some .int }, accessFlags := 9, code := some k2c1 }
def k2c2 : Code := { maxStack := 2, maxLocals := 2, code := jdk_29_method_69_code, exceptionTable := #[], attributes := #[] }
def k2m2 : Method := { name := "min", desc := "(II)I", sig := { parameters := [.int, .int], returnType := some .int }, accessFlags := 9, code := some k2c2 }
/-- java/lang/Math -/
def k2 : Class := { plain "java/lang/Math" (some 0) with
  accessFlags := 49
  interfaces := #[]
  cf := some (fileOf pool2 1 #[.nestMembers #[98]] #[{ accessFlags := 2, nameIndex := 7, descriptorIndex := 8, attributes := #[] }, { accessFlags := 9, nameIndex := 198, descriptorIndex := 335, attributes := #[] }, { accessFlags := 9, nameIndex := 201, descriptorIndex := 335, attributes := #[] }] 49 4 #[] #[{ accessFlags := 25, nameIndex := 354, descriptorIndex := 339, attributes := #[] }, { accessFlags := 25, nameIndex := 358, descriptorIndex := 339, attributes := #[] }, { accessFlags := 25, nameIndex := 361, descriptorIndex := 339, attributes := #[] }, { accessFlags := 26, nameIndex := 364, descriptorIndex := 339, attributes := #[] }, { accessFlags := 26, nameIndex := 365, descriptorIndex := 339, attributes := #[] }, { accessFlags := 26, nameIndex := 172, descriptorIndex := 173, attributes := #[] }, { accessFlags := 26, nameIndex := 176, descriptorIndex := 173, attributes := #[] }, { accessFlags := 8, nameIndex := 344, descriptorIndex := 339, attributes := #[] }, { accessFlags := 8, nameIndex := 338, descriptorIndex := 339, attributes := #[] }, { accessFlags := 4120, nameIndex := 245, descriptorIndex := 246, attributes := #[] }])
  fields := #[{ name := "E", type := .double, accessFlags := 25, slot := 0, constantValue := 0 }, { name := "PI", type := .double, accessFlags := 25, slot := 1, constantValue := 0 }, { name := "TAU", type := .double, accessFlags := 25, slot := 2, constantValue := 0 }, { name := "DEGREES_TO_RADIANS", type := .double, accessFlags := 26, slot := 3, constantValue := 0 }, { name := "RADIANS_TO_DEGREES", type := .double, accessFlags := 26, slot := 4, constantValue := 0 }, { name := "negativeZeroFloatBits", type := .long, accessFlags := 26, slot := 5, constantValue := 0 }, { name := "negativeZeroDoubleBits", type := .long, accessFlags := 26, slot := 6, constantValue := 0 }, { name := "twoToTheDoubleScaleUp", type := .double, accessFlags := 8, slot := 7, constantValue := 0 }, { name := "twoToTheDoubleScaleDown", type := .double, accessFlags := 8, slot := 8, constantValue := 0 }, { name := "$assertionsDisabled", type := .boolean, accessFlags := 4120, slot := 9, constantValue := 0 }]
  methods := #[k2m0, k2m1, k2m2]
  instanceTypes := #[]
  staticTypes := #[.double, .double, .double, .double, .double, .long, .long, .double, .double, .boolean]
  resolved := Array.replicate 460 none
  statics := none }

def pool3 : Array CpInfo := pool [(1, .methodref 2 3), (0, .class_ 4), (0, .nameAndType 5 6), (0, u "java/lang/Object"), (0, u "<init>"), (0, u "()V"), (9, .methodref 17 18), (0, .class_ 19), (0, .nameAndType 20 21), (0, u "java/lang/Math"), (0, u "min"), (0, u "(II)I"), (0, .fieldref 23 24), (0, .class_ 25), (0, .nameAndType 26 27), (0, u "com/example/harlow/harlow/core/topology/NodePair"), (0, u "lower"), (0, u "I"), (0, .methodref 17 29), (0, .nameAndType 30 21), (0, u "max"), (0, .fieldref 23 32), (0, .nameAndType 33 27), (0, u "higher"), (5, u "(II)V"), (5, u "(Ljava/lang/Object;)Z"), (8, u "equals")] 18

def k3c0 : Code := { maxStack := 4, maxLocals := 3, code := prog_20_method_1_code, exceptionTable := #[], attributes := #[] }
def k3m0 : Method := { name := "<init>", desc := "(II)V", sig := { parameters := [.int, .int], returnType := none }, accessFlags := 1, code := some k3c0 }
def k3c1 : Code := { maxStack := 2, maxLocals := 3, code := prog_20_method_5_code, exceptionTable := #[], attributes := #[] }
def k3m1 : Method := { name := "equals", desc := "(Ljava/lang/Object;)Z", sig := { parameters := [(.object "java/lang/Object")], returnType := some .boolean }, accessFlags := 1, code := some k3c1 }
/-- com/example/harlow/harlow/core/topology/NodePair -/
def k3 : Class := { plain "com/example/harlow/harlow/core/topology/NodePair" (some 0) with
  accessFlags := 33
  interfaces := #[]
  cf := some (fileOf pool3 23 #[] #[{ accessFlags := 1, nameIndex := 5, descriptorIndex := 39, attributes := #[] }, { accessFlags := 1, nameIndex := 54, descriptorIndex := 45, attributes := #[] }] 33 2 #[] #[{ accessFlags := 18, nameIndex := 26, descriptorIndex := 27, attributes := #[] }, { accessFlags := 18, nameIndex := 33, descriptorIndex := 27, attributes := #[] }])
  fields := #[{ name := "lower", type := .int, accessFlags := 18, slot := 0, constantValue := 0 }, { name := "higher", type := .int, accessFlags := 18, slot := 1, constantValue := 0 }]
  methods := #[k3m0, k3m1]
  instanceTypes := #[.int, .int]
  staticTypes := #[]
  resolved := Array.replicate 73 none
  statics := none }

def pool4 : Array CpInfo := pool [(1, .class_ 2), (0, u "java/io/Serializable"), (0, .class_ 4), (0, u "java/lang/Object")] 2

/-- java/io/Serializable -/
def k4 : Class := { plain "java/io/Serializable" (some 0) with
  accessFlags := 1537
  interfaces := #[]
  cf := some (fileOf pool4 1 #[] #[] 1537 3 #[] #[])
  fields := #[]
  methods := #[]
  instanceTypes := #[]
  staticTypes := #[]
  resolved := Array.replicate 7 none
  statics := none }

def pool5 : Array CpInfo := pool [(1, .methodref 2 3), (0, .class_ 4), (0, .nameAndType 5 6), (0, u "java/lang/Object"), (0, u "<init>"), (0, u "()V"), (1, .class_ 10), (1, u "java/lang/Number"), (2, .class_ 14), (0, u "java/io/Serializable"), (0, u "serialVersionUID"), (0, u "J")] 20

def k5c0 : Code := { maxStack := 1, maxLocals := 1, code := jdk_18_method_1_code, exceptionTable := #[], attributes := #[] }
def k5m0 : Method := { name := "<init>", desc := "()V", sig := { parameters := [], returnType := none }, accessFlags := 1, code := some k5c0 }
/-- java/lang/Number -/
def k5 : Class := { plain "java/lang/Number" (some 0) with
  accessFlags := 1057
  interfaces := #[4]
  cf := some (fileOf pool5 8 #[] #[{ accessFlags := 1, nameIndex := 5, descriptorIndex := 6, attributes := #[] }] 1057 2 #[13] #[{ accessFlags := 26, nameIndex := 15, descriptorIndex := 16, attributes := #[] }])
  fields := #[{ name := "serialVersionUID", type := .long, accessFlags := 26, slot := 0, constantValue := 0 }]
  methods := #[k5m0]
  instanceTypes := #[]
  staticTypes := #[.long]
  resolved := Array.replicate 37 none
  statics := none }

def pool6 : Array CpInfo := pool [(1, .class_ 2), (0, u "java/lang/Comparable"), (0, .class_ 4), (0, u "java/lang/Object")] 7

/-- java/lang/Comparable -/
def k6 : Class := { plain "java/lang/Comparable" (some 0) with
  accessFlags := 1537
  interfaces := #[]
  cf := some (fileOf pool6 1 #[] #[] 1537 3 #[] #[])
  fields := #[]
  methods := #[]
  instanceTypes := #[]
  staticTypes := #[]
  resolved := Array.replicate 12 none
  statics := none }

def pool7 : Array CpInfo := pool [(1, .class_ 2), (0, u "java/lang/constant/Constable"), (0, .class_ 4), (0, u "java/lang/Object")] 6

/-- java/lang/constant/Constable -/
def k7 : Class := { plain "java/lang/constant/Constable" (some 0) with
  accessFlags := 1537
  interfaces := #[]
  cf := some (fileOf pool7 1 #[] #[] 1537 3 #[] #[])
  fields := #[]
  methods := #[]
  instanceTypes := #[]
  staticTypes := #[]
  resolved := Array.replicate 11 none
  statics := none }

def pool8 : Array CpInfo := pool [(1, .class_ 2), (0, u "java/lang/constant/ConstantDesc"), (0, .class_ 4), (0, u "java/lang/Object")] 32

/-- java/lang/constant/ConstantDesc -/
def k8 : Class := { plain "java/lang/constant/ConstantDesc" (some 0) with
  accessFlags := 1537
  interfaces := #[]
  cf := some (fileOf pool8 1 #[] #[] 1537 3 #[] #[])
  fields := #[]
  methods := #[]
  instanceTypes := #[]
  staticTypes := #[]
  resolved := Array.replicate 37 none
  statics := none }

def pool9 : Array CpInfo := pool [(1, .class_ 2), (0, u "java/lang/Integer"), (16, u "digits"), (0, u "[C"), (46, u "<init>"), (17, u "DigitOnes"), (0, u "[B"), (2, u "DigitTens"), (10, .nameAndType 67 101), (0, u "()V"), (85, u "valueOf"), (0, u "(I)Ljava/lang/Integer;"), (0, .class_ 190), (0, u "java/lang/Integer$IntegerCache"), (0, .fieldref 189 192), (0, .nameAndType 193 194), (0, u "high"), (0, u "I"), (0, .fieldref 189 196), (0, .nameAndType 197 198), (0, u "cache"), (0, u "[Ljava/lang/Integer;"), (0, .methodref 1 200), (0, .nameAndType 67 201), (0, u "(I)V"), (0, .methodref 203 100), (0, .class_ 204), (0, u "java/lang/Number"), (0, .fieldref 1 206), (0, .nameAndType 207 194), (0, u "value"), (94, u "TYPE"), (0, u "Ljava/lang/Class;"), (0, .class_ 305), (0, u "java/lang/Comparable"), (0, .class_ 307), (0, u "java/lang/constant/Constable"), (0, .class_ 309), (0, u "java/lang/constant/ConstantDesc"), (0, u "MIN_VALUE"), (1, u "MAX_VALUE"), (3, u "SIZE"), (1, u "BYTES"), (1, u "serialVersionUID"), (0, u "J")] 131

def k9c0 : Code := { maxStack := 3, maxLocals := 1, code := jdk_33_method_22_code, exceptionTable := #[], attributes := #[] }
def k9m0 : Method := { name := "valueOf", desc := "(I)Ljava/lang/Integer;", sig := { parameters := [.int], returnType := some (.object "java/lang/Integer") }, accessFlags := 9, code := some k9c0 }
def k9c1 : Code := { maxStack := 2, maxLocals := 2, code := jdk_33_method_23_code, exceptionTable := #[], attributes := #[] }
def k9m1 : Method := { name := "<init>", desc := "(I)V", sig := { parameters := [.int], returnType := none }, accessFlags := 1, code := some k9c1 }
/-- java/lang/Integer -/
def k9 : Class := { plain "java/lang/Integer" (some 5) with
  accessFlags := 49
  interfaces := #[6, 7, 8]
  cf := some (fileOf pool9 1 #[.nestMembers #[189]] #[{ accessFlags := 9, nameIndex := 187, descriptorIndex := 188, attributes := #[] }, { accessFlags := 1, nameIndex := 67, descriptorIndex := 201, attributes := #[] }] 49 203 #[304, 306, 308] #[{ accessFlags := 25, nameIndex := 310, descriptorIndex := 194, attributes := #[] }, { accessFlags := 25, nameIndex := 312, descriptorIndex := 194, attributes := #[] }, { accessFlags := 25, nameIndex := 302, descriptorIndex := 303, attributes := #[] }, { accessFlags := 24, nameIndex := 19, descriptorIndex := 20, attributes := #[] }, { accessFlags := 24, nameIndex := 89, descriptorIndex := 86, attributes := #[] }, { accessFlags := 24, nameIndex := 85, descriptorIndex := 86, attributes := #[] }, { accessFlags := 18, nameIndex := 207, descriptorIndex := 194, attributes := #[] }, { accessFlags := 25, nameIndex := 316, descriptorIndex := 194, attributes := #[] }, { accessFlags := 25, nameIndex := 318, descriptorIndex := 194, attributes := #[] }, { accessFlags := 26, nameIndex := 320, descriptorIndex := 321, attributes := #[] }])
  fields := #[{ name := "MIN_VALUE", type := .int, accessFlags := 25, slot := 0, constantValue := 0 }, { name := "MAX_VALUE", type := .int, accessFlags := 25, slot := 1, constantValue := 0 }, { name := "TYPE", type := (.object "java/lang/Class"), accessFlags := 25, slot := 2, constantValue := 0 }, { name := "digits", type := (.array .char), accessFlags := 24, slot := 3, constantValue := 0 }, { name := "DigitTens", type := (.array .byte), accessFlags := 24, slot := 4, constantValue := 0 }, { name := "DigitOnes", type := (.array .byte), accessFlags := 24, slot := 5, constantValue := 0 }, { name := "value", type := .int, accessFlags := 18, slot := 0, constantValue := 0 }, { name := "SIZE", type := .int, accessFlags := 25, slot := 6, constantValue := 0 }, { name := "BYTES", type := .int, accessFlags := 25, slot := 7, constantValue := 0 }, { name := "serialVersionUID", type := .long, accessFlags := 26, slot := 8, constantValue := 0 }]
  methods := #[k9m0, k9m1]
  instanceTypes := #[.int]
  staticTypes := #[.int, .int, (.object "java/lang/Class"), (.array .char), (.array .byte), (.array .byte), .int, .int, .long]
  resolved := Array.replicate 453 none
  statics := none }

def pool10 : Array CpInfo := pool [(2, .class_ 4), (1, u "java/lang/Object"), (0, u "<init>"), (0, u "()V"), (0, .class_ 8), (0, u "java/lang/Integer"), (7, .class_ 18), (1, u "java/lang/Integer$IntegerCache"), (0, u "$assertionsDisabled"), (0, u "Z"), (26, u "high"), (0, u "I"), (8, u "archivedCache"), (0, u "[Ljava/lang/Integer;"), (12, u "cache"), (0, u "low")] 27

def k10m0 : Method := { name := "<init>", desc := "()V", sig := { parameters := [], returnType := none }, accessFlags := 2, code := none }
/-- java/lang/Integer$IntegerCache -/
def k10 : Class := { plain "java/lang/Integer$IntegerCache" (some 0) with
  accessFlags := 48
  interfaces := #[]
  cf := some (fileOf pool10 16 #[.nestHost 7] #[{ accessFlags := 2, nameIndex := 5, descriptorIndex := 6, attributes := #[] }] 48 2 #[] #[{ accessFlags := 24, nameIndex := 72, descriptorIndex := 48, attributes := #[] }, { accessFlags := 24, nameIndex := 47, descriptorIndex := 48, attributes := #[] }, { accessFlags := 24, nameIndex := 71, descriptorIndex := 58, attributes := #[] }, { accessFlags := 8, nameIndex := 57, descriptorIndex := 58, attributes := #[] }, { accessFlags := 4120, nameIndex := 19, descriptorIndex := 20, attributes := #[] }])
  fields := #[{ name := "low", type := .int, accessFlags := 24, slot := 0, constantValue := 0 }, { name := "high", type := .int, accessFlags := 24, slot := 1, constantValue := 0 }, { name := "cache", type := (.array (.object "java/lang/Integer")), accessFlags := 24, slot := 2, constantValue := 0 }, { name := "archivedCache", type := (.array (.object "java/lang/Integer")), accessFlags := 8, slot := 3, constantValue := 0 }, { name := "$assertionsDisabled", type := .boolean, accessFlags := 4120, slot := 4, constantValue := 0 }]
  methods := #[k10m0]
  instanceTypes := #[]
  staticTypes := #[.int, .int, (.array (.object "java/lang/Integer")), (.array (.object "java/lang/Integer")), .boolean]
  resolved := Array.replicate 100 none
  statics := some 0 }

def pool11 : Array CpInfo := pool [(1, u "java/lang/Cloneable"), (0, .class_ 1), (0, u "java/lang/Object"), (0, .class_ 3)] 3

/-- java/lang/Cloneable -/
def k11 : Class := { plain "java/lang/Cloneable" (some 0) with
  accessFlags := 1537
  interfaces := #[]
  cf := some (fileOf pool11 2 #[] #[] 1537 4 #[] #[])
  fields := #[]
  methods := #[]
  instanceTypes := #[]
  staticTypes := #[]
  resolved := Array.replicate 8 none
  statics := none }

/-- the primitive byte -/
def k12 : Class := { plain "byte" none with kind := .primitive 'B', accessFlags := 0x411 }
/-- [B -/
def k13 : Class := { plain "[B" (some 0) with kind := .array 12 .byte, interfaces := #[11, 4], accessFlags := 1041 }

/-- the primitive int -/
def k14 : Class := { plain "int" none with kind := .primitive 'I', accessFlags := 0x411 }
/-- [I -/
def k15 : Class := { plain "[I" (some 0) with kind := .array 14 .int, interfaces := #[11, 4], accessFlags := 1041 }

/-- [Ljava/lang/Integer; -/
def k16 : Class := { plain "[Ljava/lang/Integer;" (some 0) with kind := .array 9 (.object "java/lang/Integer"), interfaces := #[11, 4], accessFlags := 1041 }

def heap : Heap := #[{ cls := 10, slots := #[.int 0, .int 127, .ref 1, .null, .int 0], vm := .statics 10 },
  { cls := 16, slots := #[.ref 2, .ref 3, .ref 4, .ref 5, .ref 6, .ref 7, .ref 8, .ref 9, .ref 10, .ref 11, .ref 12, .ref 13, .ref 14, .ref 15, .ref 16, .ref 17, .ref 18, .ref 19, .ref 20, .ref 21, .ref 22, .ref 23, .ref 24, .ref 25, .ref 26, .ref 27, .ref 28, .ref 29, .ref 30, .ref 31, .ref 32, .ref 33, .ref 34, .ref 35, .ref 36, .ref 37, .ref 38, .ref 39, .ref 40, .ref 41, .ref 42, .ref 43, .ref 44, .ref 45, .ref 46, .ref 47, .ref 48, .ref 49, .ref 50, .ref 51, .ref 52, .ref 53, .ref 54, .ref 55, .ref 56, .ref 57, .ref 58, .ref 59, .ref 60, .ref 61, .ref 62, .ref 63, .ref 64, .ref 65, .ref 66, .ref 67, .ref 68, .ref 69, .ref 70, .ref 71, .ref 72, .ref 73, .ref 74, .ref 75, .ref 76, .ref 77, .ref 78, .ref 79, .ref 80, .ref 81, .ref 82, .ref 83, .ref 84, .ref 85, .ref 86, .ref 87, .ref 88, .ref 89, .ref 90, .ref 91, .ref 92, .ref 93, .ref 94, .ref 95, .ref 96, .ref 97, .ref 98, .ref 99, .ref 100, .ref 101, .ref 102, .ref 103, .ref 104, .ref 105, .ref 106, .ref 107, .ref 108, .ref 109, .ref 110, .ref 111, .ref 112, .ref 113, .ref 114, .ref 115, .ref 116, .ref 117, .ref 118, .ref 119, .ref 120, .ref 121, .ref 122, .ref 123, .ref 124, .ref 125, .ref 126, .ref 127, .ref 128, .ref 129, .ref 130, .ref 131, .ref 132, .ref 133, .ref 134, .ref 135, .ref 136, .ref 137, .ref 138, .ref 139, .ref 140, .ref 141, .ref 142, .ref 143, .ref 144, .ref 145, .ref 146, .ref 147, .ref 148, .ref 149, .ref 150, .ref 151, .ref 152, .ref 153, .ref 154, .ref 155, .ref 156, .ref 157, .ref 158, .ref 159, .ref 160, .ref 161, .ref 162, .ref 163, .ref 164, .ref 165, .ref 166, .ref 167, .ref 168, .ref 169, .ref 170, .ref 171, .ref 172, .ref 173, .ref 174, .ref 175, .ref 176, .ref 177, .ref 178, .ref 179, .ref 180, .ref 181, .ref 182, .ref 183, .ref 184, .ref 185, .ref 186, .ref 187, .ref 188, .ref 189, .ref 190, .ref 191, .ref 192, .ref 193, .ref 194, .ref 195, .ref 196, .ref 197, .ref 198, .ref 199, .ref 200, .ref 201, .ref 202, .ref 203, .ref 204, .ref 205, .ref 206, .ref 207, .ref 208, .ref 209, .ref 210, .ref 211, .ref 212, .ref 213, .ref 214, .ref 215, .ref 216, .ref 217, .ref 218, .ref 219, .ref 220, .ref 221, .ref 222, .ref 223, .ref 224, .ref 225, .ref 226, .ref 227, .ref 228, .ref 229, .ref 230, .ref 231, .ref 232, .ref 233, .ref 234, .ref 235, .ref 236, .ref 237, .ref 238, .ref 239, .ref 240, .ref 241, .ref 242, .ref 243, .ref 244, .ref 245, .ref 246, .ref 247, .ref 248, .ref 249, .ref 250, .ref 251, .ref 252, .ref 253, .ref 254, .ref 255, .ref 256, .ref 257], vm := .none },
  { cls := 9, slots := #[.int (-128)], vm := .none },
  { cls := 9, slots := #[.int (-127)], vm := .none },
  { cls := 9, slots := #[.int (-126)], vm := .none },
  { cls := 9, slots := #[.int (-125)], vm := .none },
  { cls := 9, slots := #[.int (-124)], vm := .none },
  { cls := 9, slots := #[.int (-123)], vm := .none },
  { cls := 9, slots := #[.int (-122)], vm := .none },
  { cls := 9, slots := #[.int (-121)], vm := .none },
  { cls := 9, slots := #[.int (-120)], vm := .none },
  { cls := 9, slots := #[.int (-119)], vm := .none },
  { cls := 9, slots := #[.int (-118)], vm := .none },
  { cls := 9, slots := #[.int (-117)], vm := .none },
  { cls := 9, slots := #[.int (-116)], vm := .none },
  { cls := 9, slots := #[.int (-115)], vm := .none },
  { cls := 9, slots := #[.int (-114)], vm := .none },
  { cls := 9, slots := #[.int (-113)], vm := .none },
  { cls := 9, slots := #[.int (-112)], vm := .none },
  { cls := 9, slots := #[.int (-111)], vm := .none },
  { cls := 9, slots := #[.int (-110)], vm := .none },
  { cls := 9, slots := #[.int (-109)], vm := .none },
  { cls := 9, slots := #[.int (-108)], vm := .none },
  { cls := 9, slots := #[.int (-107)], vm := .none },
  { cls := 9, slots := #[.int (-106)], vm := .none },
  { cls := 9, slots := #[.int (-105)], vm := .none },
  { cls := 9, slots := #[.int (-104)], vm := .none },
  { cls := 9, slots := #[.int (-103)], vm := .none },
  { cls := 9, slots := #[.int (-102)], vm := .none },
  { cls := 9, slots := #[.int (-101)], vm := .none },
  { cls := 9, slots := #[.int (-100)], vm := .none },
  { cls := 9, slots := #[.int (-99)], vm := .none },
  { cls := 9, slots := #[.int (-98)], vm := .none },
  { cls := 9, slots := #[.int (-97)], vm := .none },
  { cls := 9, slots := #[.int (-96)], vm := .none },
  { cls := 9, slots := #[.int (-95)], vm := .none },
  { cls := 9, slots := #[.int (-94)], vm := .none },
  { cls := 9, slots := #[.int (-93)], vm := .none },
  { cls := 9, slots := #[.int (-92)], vm := .none },
  { cls := 9, slots := #[.int (-91)], vm := .none },
  { cls := 9, slots := #[.int (-90)], vm := .none },
  { cls := 9, slots := #[.int (-89)], vm := .none },
  { cls := 9, slots := #[.int (-88)], vm := .none },
  { cls := 9, slots := #[.int (-87)], vm := .none },
  { cls := 9, slots := #[.int (-86)], vm := .none },
  { cls := 9, slots := #[.int (-85)], vm := .none },
  { cls := 9, slots := #[.int (-84)], vm := .none },
  { cls := 9, slots := #[.int (-83)], vm := .none },
  { cls := 9, slots := #[.int (-82)], vm := .none },
  { cls := 9, slots := #[.int (-81)], vm := .none },
  { cls := 9, slots := #[.int (-80)], vm := .none },
  { cls := 9, slots := #[.int (-79)], vm := .none },
  { cls := 9, slots := #[.int (-78)], vm := .none },
  { cls := 9, slots := #[.int (-77)], vm := .none },
  { cls := 9, slots := #[.int (-76)], vm := .none },
  { cls := 9, slots := #[.int (-75)], vm := .none },
  { cls := 9, slots := #[.int (-74)], vm := .none },
  { cls := 9, slots := #[.int (-73)], vm := .none },
  { cls := 9, slots := #[.int (-72)], vm := .none },
  { cls := 9, slots := #[.int (-71)], vm := .none },
  { cls := 9, slots := #[.int (-70)], vm := .none },
  { cls := 9, slots := #[.int (-69)], vm := .none },
  { cls := 9, slots := #[.int (-68)], vm := .none },
  { cls := 9, slots := #[.int (-67)], vm := .none },
  { cls := 9, slots := #[.int (-66)], vm := .none },
  { cls := 9, slots := #[.int (-65)], vm := .none },
  { cls := 9, slots := #[.int (-64)], vm := .none },
  { cls := 9, slots := #[.int (-63)], vm := .none },
  { cls := 9, slots := #[.int (-62)], vm := .none },
  { cls := 9, slots := #[.int (-61)], vm := .none },
  { cls := 9, slots := #[.int (-60)], vm := .none },
  { cls := 9, slots := #[.int (-59)], vm := .none },
  { cls := 9, slots := #[.int (-58)], vm := .none },
  { cls := 9, slots := #[.int (-57)], vm := .none },
  { cls := 9, slots := #[.int (-56)], vm := .none },
  { cls := 9, slots := #[.int (-55)], vm := .none },
  { cls := 9, slots := #[.int (-54)], vm := .none },
  { cls := 9, slots := #[.int (-53)], vm := .none },
  { cls := 9, slots := #[.int (-52)], vm := .none },
  { cls := 9, slots := #[.int (-51)], vm := .none },
  { cls := 9, slots := #[.int (-50)], vm := .none },
  { cls := 9, slots := #[.int (-49)], vm := .none },
  { cls := 9, slots := #[.int (-48)], vm := .none },
  { cls := 9, slots := #[.int (-47)], vm := .none },
  { cls := 9, slots := #[.int (-46)], vm := .none },
  { cls := 9, slots := #[.int (-45)], vm := .none },
  { cls := 9, slots := #[.int (-44)], vm := .none },
  { cls := 9, slots := #[.int (-43)], vm := .none },
  { cls := 9, slots := #[.int (-42)], vm := .none },
  { cls := 9, slots := #[.int (-41)], vm := .none },
  { cls := 9, slots := #[.int (-40)], vm := .none },
  { cls := 9, slots := #[.int (-39)], vm := .none },
  { cls := 9, slots := #[.int (-38)], vm := .none },
  { cls := 9, slots := #[.int (-37)], vm := .none },
  { cls := 9, slots := #[.int (-36)], vm := .none },
  { cls := 9, slots := #[.int (-35)], vm := .none },
  { cls := 9, slots := #[.int (-34)], vm := .none },
  { cls := 9, slots := #[.int (-33)], vm := .none },
  { cls := 9, slots := #[.int (-32)], vm := .none },
  { cls := 9, slots := #[.int (-31)], vm := .none },
  { cls := 9, slots := #[.int (-30)], vm := .none },
  { cls := 9, slots := #[.int (-29)], vm := .none },
  { cls := 9, slots := #[.int (-28)], vm := .none },
  { cls := 9, slots := #[.int (-27)], vm := .none },
  { cls := 9, slots := #[.int (-26)], vm := .none },
  { cls := 9, slots := #[.int (-25)], vm := .none },
  { cls := 9, slots := #[.int (-24)], vm := .none },
  { cls := 9, slots := #[.int (-23)], vm := .none },
  { cls := 9, slots := #[.int (-22)], vm := .none },
  { cls := 9, slots := #[.int (-21)], vm := .none },
  { cls := 9, slots := #[.int (-20)], vm := .none },
  { cls := 9, slots := #[.int (-19)], vm := .none },
  { cls := 9, slots := #[.int (-18)], vm := .none },
  { cls := 9, slots := #[.int (-17)], vm := .none },
  { cls := 9, slots := #[.int (-16)], vm := .none },
  { cls := 9, slots := #[.int (-15)], vm := .none },
  { cls := 9, slots := #[.int (-14)], vm := .none },
  { cls := 9, slots := #[.int (-13)], vm := .none },
  { cls := 9, slots := #[.int (-12)], vm := .none },
  { cls := 9, slots := #[.int (-11)], vm := .none },
  { cls := 9, slots := #[.int (-10)], vm := .none },
  { cls := 9, slots := #[.int (-9)], vm := .none },
  { cls := 9, slots := #[.int (-8)], vm := .none },
  { cls := 9, slots := #[.int (-7)], vm := .none },
  { cls := 9, slots := #[.int (-6)], vm := .none },
  { cls := 9, slots := #[.int (-5)], vm := .none },
  { cls := 9, slots := #[.int (-4)], vm := .none },
  { cls := 9, slots := #[.int (-3)], vm := .none },
  { cls := 9, slots := #[.int (-2)], vm := .none },
  { cls := 9, slots := #[.int (-1)], vm := .none },
  { cls := 9, slots := #[.int 0], vm := .none },
  { cls := 9, slots := #[.int 1], vm := .none },
  { cls := 9, slots := #[.int 2], vm := .none },
  { cls := 9, slots := #[.int 3], vm := .none },
  { cls := 9, slots := #[.int 4], vm := .none },
  { cls := 9, slots := #[.int 5], vm := .none },
  { cls := 9, slots := #[.int 6], vm := .none },
  { cls := 9, slots := #[.int 7], vm := .none },
  { cls := 9, slots := #[.int 8], vm := .none },
  { cls := 9, slots := #[.int 9], vm := .none },
  { cls := 9, slots := #[.int 10], vm := .none },
  { cls := 9, slots := #[.int 11], vm := .none },
  { cls := 9, slots := #[.int 12], vm := .none },
  { cls := 9, slots := #[.int 13], vm := .none },
  { cls := 9, slots := #[.int 14], vm := .none },
  { cls := 9, slots := #[.int 15], vm := .none },
  { cls := 9, slots := #[.int 16], vm := .none },
  { cls := 9, slots := #[.int 17], vm := .none },
  { cls := 9, slots := #[.int 18], vm := .none },
  { cls := 9, slots := #[.int 19], vm := .none },
  { cls := 9, slots := #[.int 20], vm := .none },
  { cls := 9, slots := #[.int 21], vm := .none },
  { cls := 9, slots := #[.int 22], vm := .none },
  { cls := 9, slots := #[.int 23], vm := .none },
  { cls := 9, slots := #[.int 24], vm := .none },
  { cls := 9, slots := #[.int 25], vm := .none },
  { cls := 9, slots := #[.int 26], vm := .none },
  { cls := 9, slots := #[.int 27], vm := .none },
  { cls := 9, slots := #[.int 28], vm := .none },
  { cls := 9, slots := #[.int 29], vm := .none },
  { cls := 9, slots := #[.int 30], vm := .none },
  { cls := 9, slots := #[.int 31], vm := .none },
  { cls := 9, slots := #[.int 32], vm := .none },
  { cls := 9, slots := #[.int 33], vm := .none },
  { cls := 9, slots := #[.int 34], vm := .none },
  { cls := 9, slots := #[.int 35], vm := .none },
  { cls := 9, slots := #[.int 36], vm := .none },
  { cls := 9, slots := #[.int 37], vm := .none },
  { cls := 9, slots := #[.int 38], vm := .none },
  { cls := 9, slots := #[.int 39], vm := .none },
  { cls := 9, slots := #[.int 40], vm := .none },
  { cls := 9, slots := #[.int 41], vm := .none },
  { cls := 9, slots := #[.int 42], vm := .none },
  { cls := 9, slots := #[.int 43], vm := .none },
  { cls := 9, slots := #[.int 44], vm := .none },
  { cls := 9, slots := #[.int 45], vm := .none },
  { cls := 9, slots := #[.int 46], vm := .none },
  { cls := 9, slots := #[.int 47], vm := .none },
  { cls := 9, slots := #[.int 48], vm := .none },
  { cls := 9, slots := #[.int 49], vm := .none },
  { cls := 9, slots := #[.int 50], vm := .none },
  { cls := 9, slots := #[.int 51], vm := .none },
  { cls := 9, slots := #[.int 52], vm := .none },
  { cls := 9, slots := #[.int 53], vm := .none },
  { cls := 9, slots := #[.int 54], vm := .none },
  { cls := 9, slots := #[.int 55], vm := .none },
  { cls := 9, slots := #[.int 56], vm := .none },
  { cls := 9, slots := #[.int 57], vm := .none },
  { cls := 9, slots := #[.int 58], vm := .none },
  { cls := 9, slots := #[.int 59], vm := .none },
  { cls := 9, slots := #[.int 60], vm := .none },
  { cls := 9, slots := #[.int 61], vm := .none },
  { cls := 9, slots := #[.int 62], vm := .none },
  { cls := 9, slots := #[.int 63], vm := .none },
  { cls := 9, slots := #[.int 64], vm := .none },
  { cls := 9, slots := #[.int 65], vm := .none },
  { cls := 9, slots := #[.int 66], vm := .none },
  { cls := 9, slots := #[.int 67], vm := .none },
  { cls := 9, slots := #[.int 68], vm := .none },
  { cls := 9, slots := #[.int 69], vm := .none },
  { cls := 9, slots := #[.int 70], vm := .none },
  { cls := 9, slots := #[.int 71], vm := .none },
  { cls := 9, slots := #[.int 72], vm := .none },
  { cls := 9, slots := #[.int 73], vm := .none },
  { cls := 9, slots := #[.int 74], vm := .none },
  { cls := 9, slots := #[.int 75], vm := .none },
  { cls := 9, slots := #[.int 76], vm := .none },
  { cls := 9, slots := #[.int 77], vm := .none },
  { cls := 9, slots := #[.int 78], vm := .none },
  { cls := 9, slots := #[.int 79], vm := .none },
  { cls := 9, slots := #[.int 80], vm := .none },
  { cls := 9, slots := #[.int 81], vm := .none },
  { cls := 9, slots := #[.int 82], vm := .none },
  { cls := 9, slots := #[.int 83], vm := .none },
  { cls := 9, slots := #[.int 84], vm := .none },
  { cls := 9, slots := #[.int 85], vm := .none },
  { cls := 9, slots := #[.int 86], vm := .none },
  { cls := 9, slots := #[.int 87], vm := .none },
  { cls := 9, slots := #[.int 88], vm := .none },
  { cls := 9, slots := #[.int 89], vm := .none },
  { cls := 9, slots := #[.int 90], vm := .none },
  { cls := 9, slots := #[.int 91], vm := .none },
  { cls := 9, slots := #[.int 92], vm := .none },
  { cls := 9, slots := #[.int 93], vm := .none },
  { cls := 9, slots := #[.int 94], vm := .none },
  { cls := 9, slots := #[.int 95], vm := .none },
  { cls := 9, slots := #[.int 96], vm := .none },
  { cls := 9, slots := #[.int 97], vm := .none },
  { cls := 9, slots := #[.int 98], vm := .none },
  { cls := 9, slots := #[.int 99], vm := .none },
  { cls := 9, slots := #[.int 100], vm := .none },
  { cls := 9, slots := #[.int 101], vm := .none },
  { cls := 9, slots := #[.int 102], vm := .none },
  { cls := 9, slots := #[.int 103], vm := .none },
  { cls := 9, slots := #[.int 104], vm := .none },
  { cls := 9, slots := #[.int 105], vm := .none },
  { cls := 9, slots := #[.int 106], vm := .none },
  { cls := 9, slots := #[.int 107], vm := .none },
  { cls := 9, slots := #[.int 108], vm := .none },
  { cls := 9, slots := #[.int 109], vm := .none },
  { cls := 9, slots := #[.int 110], vm := .none },
  { cls := 9, slots := #[.int 111], vm := .none },
  { cls := 9, slots := #[.int 112], vm := .none },
  { cls := 9, slots := #[.int 113], vm := .none },
  { cls := 9, slots := #[.int 114], vm := .none },
  { cls := 9, slots := #[.int 115], vm := .none },
  { cls := 9, slots := #[.int 116], vm := .none },
  { cls := 9, slots := #[.int 117], vm := .none },
  { cls := 9, slots := #[.int 118], vm := .none },
  { cls := 9, slots := #[.int 119], vm := .none },
  { cls := 9, slots := #[.int 120], vm := .none },
  { cls := 9, slots := #[.int 121], vm := .none },
  { cls := 9, slots := #[.int 122], vm := .none },
  { cls := 9, slots := #[.int 123], vm := .none },
  { cls := 9, slots := #[.int 124], vm := .none },
  { cls := 9, slots := #[.int 125], vm := .none },
  { cls := 9, slots := #[.int 126], vm := .none },
  { cls := 9, slots := #[.int 127], vm := .none }]
def classes : Array Class := #[k0, k1, k2, k3, k4, k5, k6, k7, k8, k9, k10, k11, k12, k13, k14, k15, k16]
def interned : List (Array UInt16 × Addr) := []
def slotsUsed : Nat := 517
def theMethod : MethodId := ⟨1, 2⟩
def args0 : Array Value := #[.int 5, .int 7, .int 1, .int 2, .int 3]
def aboutOver (below : List Frame) : State where
  vm := { classes := classes, interned := interned.toArray }
  heap := heap
  slotsUsed := slotsUsed
  threads := #[{ frames := .invoking theMethod args0 :: below }]
def below0 : List Frame := [.native { method := ⟨0, 0⟩, args := #[] }]
def about1 : State := aboutOver below0
def p0 : Program := .bare "" "" ""
def e0 : Env := launch0.env 0 0 0
theorem w_frames : about1.frames = Frame.invoking theMethod args0 :: below0 := rfl
set_option maxRecDepth 65536 in
theorem w_args : argsFit about1.vm theMethod args0 = true := by decide +kernel
set_option maxRecDepth 65536 in
theorem w_heap : heapFits about1 = true := by decide +kernel
set_option maxRecDepth 65536 in
theorem w_runnable : about1.curStatus? = some .runnable := by decide +kernel
set_option maxRecDepth 65536 in
theorem w_alone : about1.alone = true := by decide +kernel
set_option maxRecDepth 65536 in
theorem w_named : about1.methodNamed? x = some theMethod := by decide +kernel
set_option maxRecDepth 65536 in
theorem w_hears : about1.hears theMethod below0 = true := by decide +kernel
set_option maxRecDepth 65536 in
theorem w_ripe : about1.ripe theMethod args0 below0 = true := by decide +kernel
theorem w_running : about1.status = .running := rfl
set_option maxRecDepth 65536 in
theorem w_room : about1.hasRoom e0.platform room_1 = true :=
  launch0.hasRoom_least _ room_1 (by decide +kernel) (by decide +kernel) (by decide +kernel) (by decide +kernel) (by decide +kernel) (by decide +kernel)
theorem allAtoms_all (ts : List Jvm.Cond) (a : Array Jvm.Value) (st : Jvm.State) : (allAtoms ts).before a st = ts.all (fun c => c.before a st) := by
  induction ts with
  | nil => rfl
  | cons c t ih =>
    show (Jvm.Cond.and c (allAtoms t)).before a st = _
    rw [Jvm.Cond.before_and, ih, List.all_cons]
def words1 : List Jvm.Cond := Jvm.Cond.code x code maxLocals ret :: tables_1
/-- a 'code' word, met by the world's own term for the bytes: nothing is compared byte by byte -/
theorem code_word {y : MethodName} {bytes : ByteArray} {mx : Nat} {rt : Option FieldType} {a : Array Value} {s : State} {m : MethodId} {meth : Method} {c : Code} (h1 : s.methodNamed? y = some m) (h2 : s.vm.method? m = some meth) (h3 : meth.code = some c) (h4 : c.code = bytes)
    (h5 : (c.maxLocals == mx && c.exceptionTable.isEmpty && decide (c.maxStack ≤ mostOperands) && decide (meth.sig.returnType = rt) && !meth.locks && decide (parseMethodDescriptor y.desc = some meth.sig)) = true) : (Jvm.Cond.code y bytes mx rt).before a s = true := by
  simp only [Bool.and_eq_true, beq_iff_eq, Bool.not_eq_true', decide_eq_true_eq] at h5
  obtain ⟨⟨⟨⟨⟨g1, g2⟩, g3⟩, g4⟩, g5⟩, g6⟩ := h5
  simp [Cond.before, Cond.holds, Cond.value, h1, h2, h3, h4, g1, g2, g3, g4, g5, g6]
def isCode : Jvm.Cond → Bool
  | .code _ _ _ _ => true
  | _ => false
theorem all_split {L : List Jvm.Cond} {P : Jvm.Cond → Bool} (h1 : L.all (fun c => isCode c || P c) = true) (h2 : ∀ c ∈ L.filter isCode, P c = true) : L.all P = true := by
  refine List.all_eq_true.mpr fun c hc => ?_
  have h := List.all_eq_true.mp h1 c hc
  rcases Bool.eq_false_or_eq_true (isCode c) with hi | hi
  · exact h2 c (List.mem_filter.mpr ⟨hc, hi⟩)
  · simpa [hi] using h
set_option maxRecDepth 65536 in
theorem w_c0 : (Jvm.Cond.code x code maxLocals ret).before args0 about1 = true := code_word (m := ⟨1, 2⟩) (meth := k1m2) (c := k1c2) (by decide +kernel) rfl rfl rfl (by decide +kernel)
set_option maxRecDepth 65536 in
theorem w_c1 : (Jvm.Cond.code ({ cls := "com/example/harlow/harlow/core/topology/NodePairEqualsPinLaw", name := "node", desc := "(I)I" } : Jvm.MethodName) method_2_code (1 : Nat) (Option.some Jvm.ClassFile.FieldType.int)).before args0 about1 = true := code_word (m := ⟨1, 1⟩) (meth := k1m1) (c := k1c1) (by decide +kernel) rfl rfl rfl (by decide +kernel)
set_option maxRecDepth 65536 in
theorem w_c2 : (Jvm.Cond.code ({ cls := "java/lang/Math", name := "max", desc := "(II)I" } : Jvm.MethodName) jdk_29_method_65_code (2 : Nat) (Option.some Jvm.ClassFile.FieldType.int)).before args0 about1 = true := code_word (m := ⟨2, 1⟩) (meth := k2m1) (c := k2c1) (by decide +kernel) rfl rfl rfl (by decide +kernel)
set_option maxRecDepth 65536 in
theorem w_c3 : (Jvm.Cond.code ({ cls := "com/example/harlow/harlow/core/topology/NodePair", name := "<init>", desc := "(II)V" } : Jvm.MethodName) prog_20_method_1_code (3 : Nat) (Option.none : Option Jvm.ClassFile.FieldType)).before args0 about1 = true := code_word (m := ⟨3, 0⟩) (meth := k3m0) (c := k3c0) (by decide +kernel) rfl rfl rfl (by decide +kernel)
set_option maxRecDepth 65536 in
theorem w_c4 : (Jvm.Cond.code ({ cls := "java/lang/Object", name := "<init>", desc := "()V" } : Jvm.MethodName) object_method_1_code (1 : Nat) (Option.none : Option Jvm.ClassFile.FieldType)).before args0 about1 = true := code_word (m := ⟨0, 0⟩) (meth := k0m0) (c := k0c0) (by decide +kernel) rfl rfl rfl (by decide +kernel)
set_option maxRecDepth 65536 in
theorem w_c5 : (Jvm.Cond.code ({ cls := "java/lang/Math", name := "min", desc := "(II)I" } : Jvm.MethodName) jdk_29_method_69_code (2 : Nat) (Option.some Jvm.ClassFile.FieldType.int)).before args0 about1 = true := code_word (m := ⟨2, 2⟩) (meth := k2m2) (c := k2c2) (by decide +kernel) rfl rfl rfl (by decide +kernel)
set_option maxRecDepth 65536 in
theorem w_c6 : (Jvm.Cond.code ({ cls := "com/example/harlow/harlow/core/topology/NodePair", name := "equals", desc := "(Ljava/lang/Object;)Z" } : Jvm.MethodName) prog_20_method_5_code (3 : Nat) (Option.some Jvm.ClassFile.FieldType.boolean)).before args0 about1 = true := code_word (m := ⟨3, 1⟩) (meth := k3m1) (c := k3c1) (by decide +kernel) rfl rfl rfl (by decide +kernel)
set_option maxRecDepth 65536 in
theorem w_c7 : (Jvm.Cond.code ({ cls := "java/lang/Integer", name := "valueOf", desc := "(I)Ljava/lang/Integer;" } : Jvm.MethodName) jdk_33_method_22_code (1 : Nat) (Option.some (Jvm.ClassFile.FieldType.object "java/lang/Integer"))).before args0 about1 = true := code_word (m := ⟨9, 0⟩) (meth := k9m0) (c := k9c0) (by decide +kernel) rfl rfl rfl (by decide +kernel)
set_option maxRecDepth 65536 in
theorem w_c8 : (Jvm.Cond.code ({ cls := "java/lang/Integer", name := "<init>", desc := "(I)V" } : Jvm.MethodName) jdk_33_method_23_code (2 : Nat) (Option.none : Option Jvm.ClassFile.FieldType)).before args0 about1 = true := code_word (m := ⟨9, 1⟩) (meth := k9m1) (c := k9c1) (by decide +kernel) rfl rfl rfl (by decide +kernel)
set_option maxRecDepth 65536 in
theorem w_c9 : (Jvm.Cond.code ({ cls := "java/lang/Number", name := "<init>", desc := "()V" } : Jvm.MethodName) jdk_18_method_1_code (1 : Nat) (Option.none : Option Jvm.ClassFile.FieldType)).before args0 about1 = true := code_word (m := ⟨5, 0⟩) (meth := k5m0) (c := k5c0) (by decide +kernel) rfl rfl rfl (by decide +kernel)
def codes1 : List Jvm.Cond := [Jvm.Cond.code x code maxLocals ret, Jvm.Cond.code ({ cls := "com/example/harlow/harlow/core/topology/NodePairEqualsPinLaw", name := "node", desc := "(I)I" } : Jvm.MethodName) method_2_code (1 : Nat) (Option.some Jvm.ClassFile.FieldType.int), Jvm.Cond.code ({ cls := "java/lang/Math", name := "max", desc := "(II)I" } : Jvm.MethodName) jdk_29_method_65_code (2 : Nat) (Option.some Jvm.ClassFile.FieldType.int), Jvm.Cond.code ({ cls := "com/example/harlow/harlow/core/topology/NodePair", name := "<init>", desc := "(II)V" } : Jvm.MethodName) prog_20_method_1_code (3 : Nat) (Option.none : Option Jvm.ClassFile.FieldType), Jvm.Cond.code ({ cls := "java/lang/Object", name := "<init>", desc := "()V" } : Jvm.MethodName) object_method_1_code (1 : Nat) (Option.none : Option Jvm.ClassFile.FieldType), Jvm.Cond.code ({ cls := "java/lang/Math", name := "min", desc := "(II)I" } : Jvm.MethodName) jdk_29_method_69_code (2 : Nat) (Option.some Jvm.ClassFile.FieldType.int), Jvm.Cond.code ({ cls := "com/example/harlow/harlow/core/topology/NodePair", name := "equals", desc := "(Ljava/lang/Object;)Z" } : Jvm.MethodName) prog_20_method_5_code (3 : Nat) (Option.some Jvm.ClassFile.FieldType.boolean), Jvm.Cond.code ({ cls := "java/lang/Integer", name := "valueOf", desc := "(I)Ljava/lang/Integer;" } : Jvm.MethodName) jdk_33_method_22_code (1 : Nat) (Option.some (Jvm.ClassFile.FieldType.object "java/lang/Integer")), Jvm.Cond.code ({ cls := "java/lang/Integer", name := "<init>", desc := "(I)V" } : Jvm.MethodName) jdk_33_method_23_code (2 : Nat) (Option.none : Option Jvm.ClassFile.FieldType), Jvm.Cond.code ({ cls := "java/lang/Number", name := "<init>", desc := "()V" } : Jvm.MethodName) jdk_18_method_1_code (1 : Nat) (Option.none : Option Jvm.ClassFile.FieldType)]
set_option maxRecDepth 65536 in
theorem codes_eq : words1.filter isCode = codes1 := rfl
theorem w_codes : ∀ c ∈ words1.filter isCode, c.before args0 about1 = true := by
  rw [codes_eq]
  intro c hc
  simp only [codes1, List.mem_cons, List.not_mem_nil, or_false] at hc
  rcases hc with rfl | rfl | rfl | rfl | rfl | rfl | rfl | rfl | rfl | rfl
  · exact w_c0
  · exact w_c1
  · exact w_c2
  · exact w_c3
  · exact w_c4
  · exact w_c5
  · exact w_c6
  · exact w_c7
  · exact w_c8
  · exact w_c9
set_option maxRecDepth 65536 in
theorem w_t1 : (words1.take 24).all (fun c => isCode c || c.before args0 about1) = true := by decide +kernel
set_option maxRecDepth 65536 in
theorem w_t2 : ((words1.drop 24).take 24).all (fun c => isCode c || c.before args0 about1) = true := by decide +kernel
set_option maxRecDepth 65536 in
theorem w_t3 : ((words1.drop 24).drop 24).all (fun c => isCode c || c.before args0 about1) = true := by decide +kernel
theorem w_tables : (allAtoms (Jvm.Cond.code x code maxLocals ret :: tables_1)).before args0 about1 = true := by
  rw [allAtoms_all]
  show words1.all (fun c => c.before args0 about1) = true
  refine all_split ?_ w_codes
  rw [← List.take_append_drop 24 words1, List.all_append, w_t1, ← List.take_append_drop 24 (words1.drop 24), List.all_append, w_t2, w_t3]
  rfl
set_option maxRecDepth 65536 in
theorem w_rest : rest_1_c.before args0 about1 = true := by decide +kernel
set_option maxRecDepth 65536 in
theorem w_case : (Jvm.Cond.and given_1 narrow_1).before args0 about1 = true := by decide +kernel
theorem w_applies : (headSpec (Jvm.Cond.code x code maxLocals ret :: tables_1) room_1).applies x e0.platform about1 = true :=
  (Spec.applies_iff w_frames).mpr ⟨w_running, w_runnable, w_alone, w_named, w_hears, w_ripe, w_room, w_tables⟩
theorem atStart : AtStart classFile x code maxLocals ret World_1 tables_1 room_1 Calls_1 rest_1 Pre_1 launch0 p0 e0 about1 theMethod args0 below0 :=
  ⟨lists_1, trivial, launch0.admits_env _ _ _, launch0.least_env, fairChoices_fair.cas, fairChoices_fair.clock, w_frames, w_args, w_heap, w_applies, trivial, w_rest, w_case⟩
end start1
theorem witness_1 : WitnessClaimed_1 := ⟨start1.p0, start1.e0, start1.about1, start1.theMethod, start1.args0, start1.below0, start1.atStart⟩
end Jvm.Pilot.@@N@@
