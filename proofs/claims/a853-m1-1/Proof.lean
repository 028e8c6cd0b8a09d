import JvmDerived
import JvmDerived.Pilot.@@N@@Statement
import JvmDerived.Pilot.@@N@@Code
set_option linter.unusedVariables false
set_option linter.unusedSimpArgs false
@@BLOCK:NumsL.lean.txt@@
namespace Jvm.RoadKit
open Sem ClassFile Op Lib Jvm.Stand Jvm.Free Jvm.LawKit
section Own
variable {p : Program} {l : Launch} {e : Env} {R : Room} {s : State} {m : MethodId} {args : Array Value} {below : List Frame} {meth : Method} {c : Code} {T : State} {locs : List Loc} {cells slots : Nat} {Z : State} {a0 : Array Value} {h : Heap}
/-- from the state F the walked method comes to its end, and Q holds there -/
def own_Out (p : Program) (e : Env) (below : List Frame) (Q : Outcome → State → Prop) (F : State) : Prop :=
  ∃ s₂ o, Steps p.tables e below F s₂ ∧ s₂.status = .running ∧ Ended s₂ below o ∧ Q o s₂
/-- what a contract says of the end, out of a statement on the value, the heap and the written places -/
def own_Q (Q : Option Value → Heap → List Loc → Prop) (s : State) (k n : Nat) : Outcome → State → Prop :=
  fun o U => ∃ v L, o = .returned v ∧ Q v U.heap L ∧ FrameEnd s o U L k n
theorem own_st {Q : Outcome → State → Prop} {F G : State} (h : ∀ t, Steps p.tables e below G t → Steps p.tables e below F t) (k : own_Out p e below Q G) : own_Out p e below Q F := by
  obtain ⟨s2, o, h1, h2⟩ := k
  exact ⟨s2, o, h _ h1, h2⟩
theorem own_tr {Q : Outcome → State → Prop} {F G : State} (h : Steps p.tables e below F G) (k : own_Out p e below Q G) : own_Out p e below Q F :=
  own_st (fun _ q => h.trans q) k
theorem own_retB (X : Stand p l e R s m args below meth c T locs cells slots) (hx : p.tables.exec = Jvm.exec) {Q : Option Value → Heap → List Loc → Prop} {k n : Nat} {pc : Nat} {Ls : Array Slot} {z : Int32} {t : FieldType} {rest : List Value}
    (hret : meth.sig.returnType = some t) (ht : t = .boolean ∨ t = .byte ∨ t = .char ∨ t = .short) (hlk : meth.locks = false) (hd : decode c.code pc = .ok (.ireturn, 1)) (hc : cells ≤ k) (hs : slots ≤ n)
    (hq : Q (some (.int (nar t z))) T.heap locs) : own_Out p e below (own_Q Q s k n) (T.setTop (mkF m pc Ls (.int z :: rest))) := by
  obtain ⟨fs, hr, hrun, hended, hW, hsame⟩ := X.leave (v := some (.int (nar t z))) (fun h => by rw [hret] at h; cases h) hlk
  exact ⟨_, _, retN X hx (t := t) hret ht hd hr, hrun, hended, _, _, rfl, hq, ⟨_, rfl⟩, hW, hsame.mono hc hs⟩
theorem own_retV (X : Stand p l e R s m args below meth c T locs cells slots) (hx : p.tables.exec = Jvm.exec) {Q : Option Value → Heap → List Loc → Prop} {k n : Nat} {pc : Nat} {Ls : Array Slot} {w : Value} {t : FieldType} {i : Instr} {rest : List Value}
    (hret : meth.sig.returnType = some t) (hn : narrow t w = w)
    (hi : (i = .ireturn ∧ (t = .int ∨ t = .boolean ∨ t = .byte ∨ t = .char ∨ t = .short) ∧ ∃ z, w = .int z) ∨ (i = .lreturn ∧ t = .long ∧ ∃ z, w = .long z) ∨ (i = .dreturn ∧ t = .double ∧ ∃ z, w = .double z) ∨ (i = .freturn ∧ t = .float ∧ ∃ z, w = .float z) ∨ (i = .areturn ∧ t.isReference = true ∧ w.isRef = true))
    (hlk : meth.locks = false) (hd : decode c.code pc = .ok (i, 1)) (hc : cells ≤ k) (hs : slots ≤ n)
    (hq : Q (some w) T.heap locs) : own_Out p e below (own_Q Q s k n) (T.setTop (mkF m pc Ls (w :: rest))) := by
  obtain ⟨fs, hr, hrun, hended, hW, hsame⟩ := X.leave (v := some w) (fun h => by rw [hret] at h; cases h) hlk
  exact ⟨_, _, retOut X hx hret hn hi hd hr, hrun, hended, _, _, rfl, hq, ⟨_, rfl⟩, hW, hsame.mono hc hs⟩
theorem own_retI (X : Stand p l e R s m args below meth c T locs cells slots) (hx : p.tables.exec = Jvm.exec) {Q : Option Value → Heap → List Loc → Prop} {k n : Nat} {pc : Nat} {Ls : Array Slot} {z : Int32} {rest : List Value}
    (hret : meth.sig.returnType = some .int) (hlk : meth.locks = false) (hd : decode c.code pc = .ok (.ireturn, 1)) (hc : cells ≤ k) (hs : slots ≤ n)
    (hq : Q (some (.int z)) T.heap locs) : own_Out p e below (own_Q Q s k n) (T.setTop (mkF m pc Ls (.int z :: rest))) :=
  own_retV X hx hret rfl (Or.inl ⟨rfl, Or.inl rfl, _, rfl⟩) hlk hd hc hs hq
theorem own_retJ (X : Stand p l e R s m args below meth c T locs cells slots) (hx : p.tables.exec = Jvm.exec) {Q : Option Value → Heap → List Loc → Prop} {k n : Nat} {pc : Nat} {Ls : Array Slot} {z : Int64} {rest : List Value}
    (hret : meth.sig.returnType = some .long) (hlk : meth.locks = false) (hd : decode c.code pc = .ok (.lreturn, 1)) (hc : cells ≤ k) (hs : slots ≤ n)
    (hq : Q (some (.long z)) T.heap locs) : own_Out p e below (own_Q Q s k n) (T.setTop (mkF m pc Ls (.long z :: rest))) :=
  own_retV X hx hret rfl (Or.inr (Or.inl ⟨rfl, rfl, _, rfl⟩)) hlk hd hc hs hq
theorem own_retA (X : Stand p l e R s m args below meth c T locs cells slots) (hx : p.tables.exec = Jvm.exec) {Q : Option Value → Heap → List Loc → Prop} {k n : Nat} {pc : Nat} {Ls : Array Slot} {w : Value} {t : FieldType} {rest : List Value}
    (hret : meth.sig.returnType = some t) (ht : t.isReference = true) (hw : w.isRef = true) (hlk : meth.locks = false) (hd : decode c.code pc = .ok (.areturn, 1)) (hc : cells ≤ k) (hs : slots ≤ n)
    (hq : Q (some w) T.heap locs) : own_Out p e below (own_Q Q s k n) (T.setTop (mkF m pc Ls (w :: rest))) :=
  own_retV X hx hret (by cases t <;> first | (cases ht; done) | rfl | (cases w <;> rfl)) (Or.inr (Or.inr (Or.inr (Or.inr ⟨rfl, ht, hw⟩)))) hlk hd hc hs hq
theorem own_ret0 (X : Stand p l e R s m args below meth c T locs cells slots) (hx : p.tables.exec = Jvm.exec) {Q : Option Value → Heap → List Loc → Prop} {k n : Nat} {pc : Nat} {Ls : Array Slot}
    (hret : meth.sig.returnType = none) (hlk : meth.locks = false) (hd : decode c.code pc = .ok (.return_, 1)) (hc : cells ≤ k) (hs : slots ≤ n)
    (hq : Q none T.heap locs) : own_Out p e below (own_Q Q s k n) (T.setTop (mkF m pc Ls [])) := by
  obtain ⟨fs, hr, hrun, hended, hW, hsame⟩ := X.leave (v := none) (fun _ => rfl) hlk
  exact ⟨_, _, X.returnOut hx hret hd hr, hrun, hended, _, _, rfl, hq, ⟨_, rfl⟩, hW, hsame.mono hc hs⟩
/-- the head of every body's walk -/
theorem own_body {x : MethodName} {code : ByteArray} {maxL : Nat} {ret : Option FieldType} {ws : List Jvm.Cond} {rm : Room} {as' : Array Value} {Q : Option Value → Heap → List Loc → Prop} (hpn : plainName x.cls = true) (Lf : Array Slot)
    (hent : ∀ m, entryFrame m as' maxL = mkF m 0 Lf [])
    (body : ∀ p e s m below meth c T, Stand p l e rm s m as' below meth c T [] 0 0 → p.tables.exec = Jvm.exec → c.code = code → c.maxLocals = maxL → meth.sig.returnType = ret → meth.locks = false →
      s.vm.findClass x.cls = some m.cls → meth.name = x.name → Z.Warmed39 s.vm → T.heap = h → own_Out p e below (own_Q Q s rm.cells rm.slots) (T.setTop (mkF m 0 Lf []))) :
    MetFree l x (head1 (Jvm.Cond.code x code maxL ret :: ws) rm) (fun a U => a = as' ∧ Z.Warmed39 U.vm ∧ U.heap = h) (fun _ _ _ _ _ => True)
      (fun _ U o U' => ∃ v L, o = .returned v ∧ Q v U'.heap L ∧ FrameEnd U o U' L rm.cells rm.slots) := by
  refine MetFree.of_bodySF (plainFor_of_name hpn) hisR ?_
  intro p e s m args below meth c s₁ Bd hml0 hP hK
  obtain ⟨rfl, hZ, hh⟩ := hP
  have e0 : s₁.heap = h := by rw [← hh, Bd.state]; rfl
  obtain ⟨s2, o, h1, h2⟩ := body p e s m below meth c s₁ (Stand.of_body Bd) Bd.exec Bd.bytes hml0 Bd.returns (BodyLoose.notSynchronized Bd) (findClass_of_methodNamed Bd.named) (name_of_methodNamed Bd.named Bd.method).1 hZ e0
  exact ⟨s2, o, castTop (hent m) h1, h2⟩
/-- a static call by the callee's own contract -/
theorem own_callS (X : Stand p l e R s m args below meth c T locs cells slots) (hx : p.tables.exec = Jvm.exec) (hZ : Z.Warmed39 s.vm) {own : String} {index : Nat} {y : MethodName} {bytes : ByteArray} {maxL : Nat} {ret : Option FieldType} {rm : Room} {as' : List Value} {Q : Option Value → Heap → List Loc → Prop} {Qf : Outcome → State → Prop}
    (hown : s.vm.findClass own = some m.cls) (w1 : (Jvm.Cond.methodLink own index y).before a0 Z = true) (w2 : (Jvm.Cond.static y).before a0 Z = true) (w3 : (Jvm.Cond.initialized y.cls).before a0 Z = true) (w4 : (Jvm.Cond.code y bytes maxL ret).before a0 Z = true)
    (hy : y.cls ≠ "java/lang/invoke/MethodHandle" ∧ y.cls ≠ "java/lang/invoke/VarHandle")
    (hM : MetFree l y (head1 [Jvm.Cond.code y bytes maxL ret] rm) (fun a U => a = as'.toArray ∧ Z.Warmed39 U.vm ∧ U.heap = h) (fun _ _ _ _ _ => True) (fun _ U o U' => ∃ v L, o = .returned v ∧ Q v U'.heap L ∧ FrameEnd U o U' L rm.cells rm.slots))
    (W : Nat) (hf : rm.frames + 1 ≤ R.frames) (hl : W + (maxL + 11) + rm.locals ≤ R.locals) (hc : cells + rm.cells ≤ R.cells) (hs : slots + rm.slots ≤ R.slots)
    {pc : Nat} {Ls : Array Slot} {stk rest : List Value} (hsize : Ls.size = c.maxLocals) (hlen : ∀ sig, parseMethodDescriptor y.desc = some sig → as'.length = sig.parameters.length) (hstack : stk = as'.reverse ++ rest) (hW : (rest.map fun v => v.category).sum ≤ W) (hd : decode c.code pc = .ok (.invokestatic index, 3)) (eT : T.heap = h)
    (k : ∀ T' L v, Stand p l e R s m args below meth c T' (locs ++ L) (cells + rm.cells) (slots + rm.slots) → Q v T'.heap L → own_Out p e below Qf (T'.setTop (mkF m (pc + 3) Ls (v.toList ++ rest)))) :
    own_Out p e below Qf (T.setTop (mkF m pc Ls stk)) := by
  obtain ⟨v, _, ⟨T', L', k', n'⟩, -, X', ⟨Lc, hQ, hl', hy', hz'⟩, st⟩ := Jvm.LawKit.callS X hx (y := y) hown (mvT hZ w1) (mvT hZ w2) (mvT hZ w3) (mvT hZ w4) hy (backOf (W := W) hM hZ w4 w3 hf hl) (g := mkF m pc Ls stk) rfl hsize (argsL := as') (rest := rest) hlen hstack (by show 2 * 0 + _ ≤ _; omega) hd (fun _ _ => ⟨rfl, eT, hc, hs⟩)
  dsimp only [Pt.U, Pt.locs, Pt.cells, Pt.slots] at X' hl' hy' hz' st hQ
  subst hl' hy' hz'
  exact own_st st (k _ _ _ X' hQ)
/-- an instance method by its own contract -/
theorem own_callV (X : Stand p l e R s m args below meth c T locs cells slots) (hx : p.tables.exec = Jvm.exec) (hZ : Z.Warmed39 s.vm) {own C : String} {index : Nat} {y : MethodName} {bytes : ByteArray} {maxL : Nat} {ret : Option FieldType} {rm : Room} {b : Addr} {as' : List Value} {Q : Option Value → Heap → List Loc → Prop} {Qf : Outcome → State → Prop}
    (hown : s.vm.findClass own = some m.cls) (w1 : (Jvm.Cond.methodLink own index y).before a0 Z = true) (w2 : (Jvm.Cond.declares y).before a0 Z = true) (w5 : (Jvm.Cond.selects C y y).before a0 Z = true) (w6 : (Jvm.Cond.instanceMethod y).before a0 Z = true) (w4 : (Jvm.Cond.code y bytes maxL ret).before a0 Z = true) (w3 : (Jvm.Cond.initialized y.cls).before a0 Z = true)
    (hy : y.cls ≠ "java/lang/invoke/MethodHandle" ∧ y.cls ≠ "java/lang/invoke/VarHandle")
    (hM : MetFree l y (head1 [Jvm.Cond.code y bytes maxL ret] rm) (fun a U => a = (.ref b :: as').toArray ∧ Z.Warmed39 U.vm ∧ U.heap = h) (fun _ _ _ _ _ => True) (fun _ U o U' => ∃ v L, o = .returned v ∧ Q v U'.heap L ∧ FrameEnd U o U' L rm.cells rm.slots))
    (E : Exa Z h b C)
    (W : Nat) (hf : rm.frames + 1 ≤ R.frames) (hl : W + (maxL + 11) + rm.locals ≤ R.locals) (hc : cells + rm.cells ≤ R.cells) (hs : slots + rm.slots ≤ R.slots)
    {pc : Nat} {Ls : Array Slot} {stk rest : List Value} (hsize : Ls.size = c.maxLocals) (hlen : ∀ sig, parseMethodDescriptor y.desc = some sig → as'.length = sig.parameters.length) (hstack : stk = as'.reverse ++ .ref b :: rest) (hW : (rest.map fun v => v.category).sum ≤ W) (hd : decode c.code pc = .ok (.invokevirtual index, 3)) (eT : T.heap = h)
    (k : ∀ T' L v, Stand p l e R s m args below meth c T' (locs ++ L) (cells + rm.cells) (slots + rm.slots) → Q v T'.heap L → own_Out p e below Qf (T'.setTop (mkF m (pc + 3) Ls (v.toList ++ rest)))) :
    own_Out p e below Qf (T.setTop (mkF m pc Ls stk)) := by
  obtain ⟨cq, kq, qa, qb, qc⟩ := isOf hZ eT E
  obtain ⟨v, _, ⟨T', L', k', n'⟩, -, X', ⟨Lc, hQ, hl', hy', hz'⟩, st⟩ := X.virtualBack hx (y := y) (z := y) hown (mvT hZ w1) (mvT hZ w2) (notFace_of_selects (args := #[]) (mvT hZ w5)) (mvT hZ w5) (mvT hZ w6) hy (backOf (W := W) hM hZ w4 w3 hf hl) qa qc (g := mkF m pc Ls stk) rfl hsize (Steps.refl _) (argsL := as') (rest := rest) hlen hstack (by show 2 * 0 + _ ≤ _; omega) hd (fun _ _ => ⟨rfl, eT, hc, hs⟩)
  dsimp only [Pt.U, Pt.locs, Pt.cells, Pt.slots] at X' hl' hy' hz' st hQ
  subst hl' hy' hz'
  exact own_tr st (k _ _ _ X' hQ)
/-- a constructor by its own contract -/
theorem own_callI (X : Stand p l e R s m args below meth c T locs cells slots) (hx : p.tables.exec = Jvm.exec) (hZ : Z.Warmed39 s.vm) {own : String} {index : Nat} {y : MethodName} {bytes : ByteArray} {maxL : Nat} {rm : Room} {b : Addr} {as' : List Value} {Q : Option Value → Heap → List Loc → Prop} {Qf : Outcome → State → Prop} (hy1 : y.name = "<init>")
    (hown : s.vm.findClass own = some m.cls) (w1 : (Jvm.Cond.methodLink own index y).before a0 Z = true) (w6 : (Jvm.Cond.instanceMethod y).before a0 Z = true) (w4 : (Jvm.Cond.code y bytes maxL none).before a0 Z = true) (w3 : (Jvm.Cond.initialized y.cls).before a0 Z = true)
    (hy : y.cls ≠ "java/lang/invoke/MethodHandle" ∧ y.cls ≠ "java/lang/invoke/VarHandle")
    (hM : MetFree l y (head1 [Jvm.Cond.code y bytes maxL none] rm) (fun a U => a = (.ref b :: as').toArray ∧ Z.Warmed39 U.vm ∧ U.heap = h) (fun _ _ _ _ _ => True) (fun _ U o U' => ∃ v L, o = .returned v ∧ Q v U'.heap L ∧ FrameEnd U o U' L rm.cells rm.slots))
    (W : Nat) (hf : rm.frames + 1 ≤ R.frames) (hl : W + (maxL + 11) + rm.locals ≤ R.locals) (hc : cells + rm.cells ≤ R.cells) (hs : slots + rm.slots ≤ R.slots)
    {pc : Nat} {Ls : Array Slot} {stk rest : List Value} (hsize : Ls.size = c.maxLocals) (hlen : ∀ sig, parseMethodDescriptor y.desc = some sig → as'.length = sig.parameters.length) (hstack : stk = as'.reverse ++ .ref b :: rest) (hW : (rest.map fun v => v.category).sum ≤ W) (hd : decode c.code pc = .ok (.invokespecial index, 3)) (eT : T.heap = h)
    (k : ∀ T' L v, Stand p l e R s m args below meth c T' (locs ++ L) (cells + rm.cells) (slots + rm.slots) → Q v T'.heap L → own_Out p e below Qf (T'.setTop (mkF m (pc + 3) Ls (v.toList ++ rest)))) :
    own_Out p e below Qf (T.setTop (mkF m pc Ls stk)) := by
  obtain ⟨v, _, ⟨T', L', k', n'⟩, -, X', ⟨Lc, hQ, hl', hy', hz'⟩, st⟩ := X.specialBack hx (y := y) hy1 hown (mvT hZ w1) (mvT hZ w6) (mvT hZ w4) hy (backOf (W := W) hM hZ w4 w3 hf hl) (g := mkF m pc Ls stk) rfl hsize (Steps.refl _) (a := b) (argsL := as') (rest := rest) hlen hstack (by show 2 * 0 + _ ≤ _; omega) hd (fun _ _ => ⟨rfl, eT, hc, hs⟩)
  dsimp only [Pt.U, Pt.locs, Pt.cells, Pt.slots] at X' hl' hy' hz' st hQ
  subst hl' hy' hz'
  exact own_tr st (k _ _ _ X' hQ)
theorem own_fits {C : String} {v : Value} (h : v.isRef = true) : fits (.object C) v = true := by cases v <;> first | rfl | cases h
theorem own_narO {C : String} {v : Value} (h : v.isRef = true) : narrow (.object C) v = v := by cases v <;> first | rfl | cases h
theorem own_nf {y y' : MethodName} (hc : y'.cls = y.cls) (h : NotFace s y) (hi : (Jvm.Cond.instanceMethod y).before a0 s = true) : NotFace s y' := fun r0 h0 => by
  obtain ⟨mk, methM, hnamed, -⟩ := Cond.instanceMethod_spec hi
  have h1 := findClass_of_methodNamed hnamed
  have h2 := findClass_of_methodNamed h0
  rw [hc, h1] at h2
  have h3 := Option.some.inj h2
  rw [← h3]
  exact h mk hnamed
/-- a private method (invokevirtual) by its own contract -/
theorem own_callP (X : Stand p l e R s m args below meth c T locs cells slots) (hx : p.tables.exec = Jvm.exec) (hZ : Z.Warmed39 s.vm) {own C : String} {index : Nat} {y : MethodName} {bytes : ByteArray} {maxL : Nat} {ret : Option FieldType} {rm : Room} {b : Addr} {as' : List Value} {Q : Option Value → Heap → List Loc → Prop} {Qf : Outcome → State → Prop}
    (hown : s.vm.findClass own = some m.cls) (w1 : (Jvm.Cond.methodLink own index y).before a0 Z = true) (w6 : (Jvm.Cond.instanceMethod y).before a0 Z = true) (w8 : (Jvm.Cond.privateMethod y).before a0 Z = true) (w4 : (Jvm.Cond.code y bytes maxL ret).before a0 Z = true) (w3 : (Jvm.Cond.initialized y.cls).before a0 Z = true) (hnf : NotFace s y)
    (hy : y.cls ≠ "java/lang/invoke/MethodHandle" ∧ y.cls ≠ "java/lang/invoke/VarHandle")
    (hM : MetFree l y (head1 [Jvm.Cond.code y bytes maxL ret] rm) (fun a U => a = (.ref b :: as').toArray ∧ Z.Warmed39 U.vm ∧ U.heap = h) (fun _ _ _ _ _ => True) (fun _ U o U' => ∃ v L, o = .returned v ∧ Q v U'.heap L ∧ FrameEnd U o U' L rm.cells rm.slots))
    (E : Exa Z h b C)
    (W : Nat) (hf : rm.frames + 1 ≤ R.frames) (hl : W + (maxL + 11) + rm.locals ≤ R.locals) (hc : cells + rm.cells ≤ R.cells) (hs : slots + rm.slots ≤ R.slots)
    {pc : Nat} {Ls : Array Slot} {stk rest : List Value} (hsize : Ls.size = c.maxLocals) (hlen : ∀ sig, parseMethodDescriptor y.desc = some sig → as'.length = sig.parameters.length) (hstack : stk = as'.reverse ++ .ref b :: rest) (hW : (rest.map fun v => v.category).sum ≤ W) (hd : decode c.code pc = .ok (.invokevirtual index, 3)) (eT : T.heap = h)
    (k : ∀ T' L v, Stand p l e R s m args below meth c T' (locs ++ L) (cells + rm.cells) (slots + rm.slots) → Q v T'.heap L → own_Out p e below Qf (T'.setTop (mkF m (pc + 3) Ls (v.toList ++ rest)))) :
    own_Out p e below Qf (T.setTop (mkF m pc Ls stk)) := by
  obtain ⟨mk, methM, hnamed, hmethM, hstM, habM⟩ := Cond.instanceMethod_spec (mvT (args := args) hZ w6)
  obtain ⟨methM', cM, hmethM', -, -, -, -, -, -, hsigM⟩ := Cond.code_spec hnamed (mvT (args := args) hZ w4)
  cases hmethM.symm.trans hmethM'
  obtain ⟨kP, hkP, hkPi⟩ := hnf mk hnamed
  obtain ⟨cell, hcell, hobj⟩ := E.cell
  have hselP : selectMethod e.platform s.vm cell.cls mk = .method mk := selectMethod_private hmethM (Cond.privateMethod_at (mvP hZ w8 (args := #[])) mk methM hnamed hmethM)
  obtain ⟨vm₁, X₁, hstep₁⟩ := X.invokevirtual hx hown (mvT hZ w1) hnamed hmethM hstM hkP hkPi hy (a := b) (cell := cell) (by rw [eT]; exact hcell) hobj hselP hmethM habM hkP hkPi (g := mkF m pc Ls stk) rfl (argsL := as') (rest := rest) (hlen _ hsigM) hstack hd
  obtain ⟨v, ⟨T', L', k', n'⟩, X', ⟨Lc, hQ, hl', hy', hz'⟩, st⟩ := backOf (W := W) hM hZ w4 w3 hf hl m meth c ⟨T.setVm vm₁, locs, cells, slots⟩ { mkF m pc Ls stk with stack := rest } (.invokevirtual index) mk (.ref b :: as').toArray X₁ rfl hsize hd (by show 2 * 0 + (rest.map fun v => v.category).sum ≤ W; omega) (X₁.named hnamed) ⟨rfl, eT, hc, hs⟩
  dsimp only [Pt.U, Pt.locs, Pt.cells, Pt.slots] at X' hl' hy' hz' st hQ
  subst hl' hy' hz'
  exact own_st (fun target q => hstep₁ _ fun acts => by rw [doInvoke_state]; exact st.trans q) (k _ _ _ X' hQ)
end Own
end Jvm.RoadKit
namespace Jvm.Pilot.@@N@@
open Jvm Jvm.ClassFile Sem Op Lib Jvm.Free Jvm.Stand Jvm.LawKit Jvm.RoadKit Bundle Jvm.Pilot.@@N@@.Jvm.D
theorem own_w {Z : State} {a0 : Array Value} (hw : ∀ d ∈ tables_1, d.before a0 Z = true) {d : Jvm.Cond} (k : Nat) (h : tables_1[k]? = some d) : d.before a0 Z = true := hw _ (List.mem_of_getElem? h)
def own_isS (q : Int32) : Int32 := (if q < (97 : Int32) then (if q = (95 : Int32) then (1 : Int32) else (0 : Int32)) else (if (122 : Int32) < q then (if q = (95 : Int32) then (1 : Int32) else (0 : Int32)) else (1 : Int32)))
theorem pn_own_rm1 : plainName "com/example/libbuchi/libbuchi/automata/TextCursor" = true := by first | (simp [plainName, overriddenIn]; done) | decide +kernel
theorem down_rm1_0 : decode prog_39_method_12_code 0 = .ok (.iload_n 0, 1) := by decide +kernel
theorem down_rm1_1 : decode prog_39_method_12_code 1 = .ok (.bipush 97, 2) := by decide +kernel
theorem down_rm1_3 : decode prog_39_method_12_code 3 = .ok (.if_icmp .lt 9, 3) := by decide +kernel
theorem down_rm1_6 : decode prog_39_method_12_code 6 = .ok (.iload_n 0, 1) := by decide +kernel
theorem down_rm1_7 : decode prog_39_method_12_code 7 = .ok (.bipush 122, 2) := by decide +kernel
theorem down_rm1_9 : decode prog_39_method_12_code 9 = .ok (.if_icmp .le 9, 3) := by decide +kernel
theorem down_rm1_12 : decode prog_39_method_12_code 12 = .ok (.iload_n 0, 1) := by decide +kernel
theorem down_rm1_13 : decode prog_39_method_12_code 13 = .ok (.bipush 95, 2) := by decide +kernel
theorem down_rm1_15 : decode prog_39_method_12_code 15 = .ok (.if_icmp .ne 7, 3) := by decide +kernel
theorem down_rm1_18 : decode prog_39_method_12_code 18 = .ok (.iconst 1, 1) := by decide +kernel
theorem down_rm1_19 : decode prog_39_method_12_code 19 = .ok (.goto 4, 3) := by decide +kernel
theorem down_rm1_22 : decode prog_39_method_12_code 22 = .ok (.iconst 0, 1) := by decide +kernel
theorem down_rm1_23 : decode prog_39_method_12_code 23 = .ok (.ireturn, 1) := by decide +kernel
def Q_own_rm1 (Z : State) (q : Int32)  (h0 : Heap) (n0 : Nat) (v : Option Value) (h : Heap) (L : List Loc) : Prop := v = some (.int (own_isS q)) ∧ L = [] ∧ h = h0
set_option maxRecDepth 65536 in
set_option maxHeartbeats 40000000 in
theorem own_rm1 (l : Launch) (Z : State) (a0 : Array Value) (hw : ∀ d ∈ tables_1, d.before a0 Z = true) (ws : List Jvm.Cond) (q : Int32)  (h0 : Heap) (n0 : Nat)  :
    MetFree l (⟨"com/example/libbuchi/libbuchi/automata/TextCursor", "isIdentifierStart", "(I)Z"⟩ : MethodName) (head1 (Jvm.Cond.code (⟨"com/example/libbuchi/libbuchi/automata/TextCursor", "isIdentifierStart", "(I)Z"⟩ : MethodName) prog_39_method_12_code 1 (some (.boolean)) :: ws) ({ frames := 0, cells := 0, slots := 0, locals := 0 } : Room)) (fun aa U => aa = #[(.int q)] ∧ Z.Warmed39 U.vm ∧ U.heap = h0) (fun _ _ _ _ _ => True) (fun _ U o U' => ∃ v L, o = .returned v ∧ Q_own_rm1 Z q h0 n0 v U'.heap L ∧ FrameEnd U o U' L ({ frames := 0, cells := 0, slots := 0, locals := 0 } : Room).cells ({ frames := 0, cells := 0, slots := 0, locals := 0 } : Room).slots) := by
  refine own_body (x := (⟨"com/example/libbuchi/libbuchi/automata/TextCursor", "isIdentifierStart", "(I)Z"⟩ : MethodName)) (maxL := 1) (as' := #[(.int q)]) (Q := Q_own_rm1 Z q h0 n0) pn_own_rm1 #[.val (.int q)] (fun m => by first | rfl | (simp [entryFrame, mkF, argsToLocals, Value.category]; done)) ?_
  intro p e s m below meth c T0 X0 hx hby hml hret hlk hown hnm hZ e0
  replace hml : c.maxLocals = 1 := hml
  replace hown : s.vm.findClass "com/example/libbuchi/libbuchi/automata/TextCursor" = some m.cls := hown
  have N0 := Fr.nil n0
  refine own_st (G := T0.setTop (mkF m 1 #[.val (.int q)] [(.int q)])) (fun _ kk => XS.iloadN X0.here hx rfl (hb hby down_rm1_0) rfl kk) ?_
  refine own_st (G := T0.setTop (mkF m 3 #[.val (.int q)] [(.int (97 : Int32)), (.int q)])) (fun _ kk => XT.bipushV X0.here hx rfl (97 : Int32) (hb hby down_rm1_1) (by decide) kk) ?_
  by_cases hc1 : q < (97 : Int32)
  · skip
    refine own_st (G := T0.setTop (mkF m 12 #[.val (.int q)] [])) (fun _ kk => XS.icmpYes X0.here hx rfl (pc0 := 3) (pc' := 12) rfl (hb hby down_rm1_3) rfl (XT.ii_lt_t hc1) (by decide) (by decide) kk) ?_
    refine own_st (G := T0.setTop (mkF m 13 #[.val (.int q)] [(.int q)])) (fun _ kk => XS.iloadN X0.here hx rfl (hb hby down_rm1_12) rfl kk) ?_
    refine own_st (G := T0.setTop (mkF m 15 #[.val (.int q)] [(.int (95 : Int32)), (.int q)])) (fun _ kk => XT.bipushV X0.here hx rfl (95 : Int32) (hb hby down_rm1_13) (by decide) kk) ?_
    by_cases hc2 : q = (95 : Int32)
    · skip
      refine own_st (G := T0.setTop (mkF m 18 #[.val (.int q)] [])) (fun _ kk => XS.icmpNo X0.here hx rfl (hb hby down_rm1_15) rfl (XT.ii_ne_f hc2) kk) ?_
      refine own_st (G := T0.setTop (mkF m 19 #[.val (.int q)] [(.int (1 : Int32))])) (fun _ kk => XT.iconstV X0.here hx rfl (1 : Int32) (hb hby down_rm1_18) (by decide) kk) ?_
      refine own_st (G := T0.setTop (mkF m 23 #[.val (.int q)] [(.int (1 : Int32))])) (fun _ kk => XS.goto X0.here hx rfl (pc0 := 19) (pc' := 23) rfl (hb hby down_rm1_19) (by decide) (by decide) kk) ?_
      refine own_retB X0 hx hret (by simp) hlk (hb hby down_rm1_23) (by decide) (by decide) ?_
      exact ⟨by rw [show (own_isS q) = (1 : Int32) from by unfold own_isS; rw [if_pos hc1, if_pos hc2]]; rfl, rfl, e0⟩
    · skip
      refine own_st (G := T0.setTop (mkF m 22 #[.val (.int q)] [])) (fun _ kk => XS.icmpYes X0.here hx rfl (pc0 := 15) (pc' := 22) rfl (hb hby down_rm1_15) rfl (XT.ii_ne_t hc2) (by decide) (by decide) kk) ?_
      refine own_st (G := T0.setTop (mkF m 23 #[.val (.int q)] [(.int (0 : Int32))])) (fun _ kk => XT.iconstV X0.here hx rfl (0 : Int32) (hb hby down_rm1_22) (by decide) kk) ?_
      refine own_retB X0 hx hret (by simp) hlk (hb hby down_rm1_23) (by decide) (by decide) ?_
      exact ⟨by rw [show (own_isS q) = (0 : Int32) from by unfold own_isS; rw [if_pos hc1, if_neg hc2]]; rfl, rfl, e0⟩
  · skip
    refine own_st (G := T0.setTop (mkF m 6 #[.val (.int q)] [])) (fun _ kk => XS.icmpNo X0.here hx rfl (hb hby down_rm1_3) rfl (XT.ii_lt_f hc1) kk) ?_
    refine own_st (G := T0.setTop (mkF m 7 #[.val (.int q)] [(.int q)])) (fun _ kk => XS.iloadN X0.here hx rfl (hb hby down_rm1_6) rfl kk) ?_
    refine own_st (G := T0.setTop (mkF m 9 #[.val (.int q)] [(.int (122 : Int32)), (.int q)])) (fun _ kk => XT.bipushV X0.here hx rfl (122 : Int32) (hb hby down_rm1_7) (by decide) kk) ?_
    by_cases hc3 : (122 : Int32) < q
    · skip
      refine own_st (G := T0.setTop (mkF m 12 #[.val (.int q)] [])) (fun _ kk => XS.icmpNo X0.here hx rfl (hb hby down_rm1_9) rfl (XT.ii_le_f hc3) kk) ?_
      refine own_st (G := T0.setTop (mkF m 13 #[.val (.int q)] [(.int q)])) (fun _ kk => XS.iloadN X0.here hx rfl (hb hby down_rm1_12) rfl kk) ?_
      refine own_st (G := T0.setTop (mkF m 15 #[.val (.int q)] [(.int (95 : Int32)), (.int q)])) (fun _ kk => XT.bipushV X0.here hx rfl (95 : Int32) (hb hby down_rm1_13) (by decide) kk) ?_
      by_cases hc4 : q = (95 : Int32)
      · skip
        refine own_st (G := T0.setTop (mkF m 18 #[.val (.int q)] [])) (fun _ kk => XS.icmpNo X0.here hx rfl (hb hby down_rm1_15) rfl (XT.ii_ne_f hc4) kk) ?_
        refine own_st (G := T0.setTop (mkF m 19 #[.val (.int q)] [(.int (1 : Int32))])) (fun _ kk => XT.iconstV X0.here hx rfl (1 : Int32) (hb hby down_rm1_18) (by decide) kk) ?_
        refine own_st (G := T0.setTop (mkF m 23 #[.val (.int q)] [(.int (1 : Int32))])) (fun _ kk => XS.goto X0.here hx rfl (pc0 := 19) (pc' := 23) rfl (hb hby down_rm1_19) (by decide) (by decide) kk) ?_
        refine own_retB X0 hx hret (by simp) hlk (hb hby down_rm1_23) (by decide) (by decide) ?_
        exact ⟨by rw [show (own_isS q) = (1 : Int32) from by unfold own_isS; rw [if_neg hc1, if_pos hc3, if_pos hc4]]; rfl, rfl, e0⟩
      · skip
        refine own_st (G := T0.setTop (mkF m 22 #[.val (.int q)] [])) (fun _ kk => XS.icmpYes X0.here hx rfl (pc0 := 15) (pc' := 22) rfl (hb hby down_rm1_15) rfl (XT.ii_ne_t hc4) (by decide) (by decide) kk) ?_
        refine own_st (G := T0.setTop (mkF m 23 #[.val (.int q)] [(.int (0 : Int32))])) (fun _ kk => XT.iconstV X0.here hx rfl (0 : Int32) (hb hby down_rm1_22) (by decide) kk) ?_
        refine own_retB X0 hx hret (by simp) hlk (hb hby down_rm1_23) (by decide) (by decide) ?_
        exact ⟨by rw [show (own_isS q) = (0 : Int32) from by unfold own_isS; rw [if_neg hc1, if_pos hc3, if_neg hc4]]; rfl, rfl, e0⟩
    · skip
      refine own_st (G := T0.setTop (mkF m 18 #[.val (.int q)] [])) (fun _ kk => XS.icmpYes X0.here hx rfl (pc0 := 9) (pc' := 18) rfl (hb hby down_rm1_9) rfl (XT.ii_le_t hc3) (by decide) (by decide) kk) ?_
      refine own_st (G := T0.setTop (mkF m 19 #[.val (.int q)] [(.int (1 : Int32))])) (fun _ kk => XT.iconstV X0.here hx rfl (1 : Int32) (hb hby down_rm1_18) (by decide) kk) ?_
      refine own_st (G := T0.setTop (mkF m 23 #[.val (.int q)] [(.int (1 : Int32))])) (fun _ kk => XS.goto X0.here hx rfl (pc0 := 19) (pc' := 23) rfl (hb hby down_rm1_19) (by decide) (by decide) kk) ?_
      refine own_retB X0 hx hret (by simp) hlk (hb hby down_rm1_23) (by decide) (by decide) ?_
      exact ⟨by rw [show (own_isS q) = (1 : Int32) from by unfold own_isS; rw [if_neg hc1, if_neg hc3]]; rfl, rfl, e0⟩
def own_ref (q : Int32) : Int32 := (if q.toInt64 = (95 : Int64) then (1 : Int32) else (if (q.toInt64 - (97 : Int64)) < (0 : Int64) then (0 : Int32) else (if (q.toInt64 - (97 : Int64)) < (26 : Int64) then (1 : Int32) else (0 : Int32))))
theorem pn_own_rm2 : plainName "com/example/libbuchi/libbuchi/automata/TextCursorIsIdentifierStartPinLaw" = true := by first | (simp [plainName, overriddenIn]; done) | decide +kernel
theorem down_rm2_0 : decode method_2_code 0 = .ok (.iload_n 0, 1) := by decide +kernel
theorem down_rm2_1 : decode method_2_code 1 = .ok (.i2l, 1) := by decide +kernel
theorem down_rm2_2 : decode method_2_code 2 = .ok (.lstore_n 1, 1) := by decide +kernel
theorem down_rm2_3 : decode method_2_code 3 = .ok (.lload_n 1, 1) := by decide +kernel
theorem down_rm2_4 : decode method_2_code 4 = .ok (.ldc2_w 7, 3) := by decide +kernel
theorem down_rm2_7 : decode method_2_code 7 = .ok (.lsub, 1) := by decide +kernel
theorem down_rm2_8 : decode method_2_code 8 = .ok (.lstore_n 3, 1) := by decide +kernel
theorem down_rm2_9 : decode method_2_code 9 = .ok (.lload_n 1, 1) := by decide +kernel
theorem down_rm2_10 : decode method_2_code 10 = .ok (.ldc2_w 9, 3) := by decide +kernel
theorem down_rm2_13 : decode method_2_code 13 = .ok (.lcmp, 1) := by decide +kernel
theorem down_rm2_14 : decode method_2_code 14 = .ok (.ifCond .ne 5, 3) := by decide +kernel
theorem down_rm2_17 : decode method_2_code 17 = .ok (.iconst 1, 1) := by decide +kernel
theorem down_rm2_18 : decode method_2_code 18 = .ok (.ireturn, 1) := by decide +kernel
theorem down_rm2_19 : decode method_2_code 19 = .ok (.lload_n 3, 1) := by decide +kernel
theorem down_rm2_20 : decode method_2_code 20 = .ok (.lconst 0, 1) := by decide +kernel
theorem down_rm2_21 : decode method_2_code 21 = .ok (.lcmp, 1) := by decide +kernel
theorem down_rm2_22 : decode method_2_code 22 = .ok (.ifCond .lt 15, 3) := by decide +kernel
theorem down_rm2_25 : decode method_2_code 25 = .ok (.lload_n 3, 1) := by decide +kernel
theorem down_rm2_26 : decode method_2_code 26 = .ok (.ldc2_w 11, 3) := by decide +kernel
theorem down_rm2_29 : decode method_2_code 29 = .ok (.lcmp, 1) := by decide +kernel
theorem down_rm2_30 : decode method_2_code 30 = .ok (.ifCond .ge 7, 3) := by decide +kernel
theorem down_rm2_33 : decode method_2_code 33 = .ok (.iconst 1, 1) := by decide +kernel
theorem down_rm2_34 : decode method_2_code 34 = .ok (.goto 4, 3) := by decide +kernel
theorem down_rm2_37 : decode method_2_code 37 = .ok (.iconst 0, 1) := by decide +kernel
theorem down_rm2_38 : decode method_2_code 38 = .ok (.ireturn, 1) := by decide +kernel
def Q_own_rm2 (Z : State) (q : Int32)  (h0 : Heap) (n0 : Nat) (v : Option Value) (h : Heap) (L : List Loc) : Prop := v = some (.int (own_ref q)) ∧ L = [] ∧ h = h0
set_option maxRecDepth 65536 in
set_option maxHeartbeats 40000000 in
theorem own_rm2 (l : Launch) (Z : State) (a0 : Array Value) (hw : ∀ d ∈ tables_1, d.before a0 Z = true) (ws : List Jvm.Cond) (q : Int32)  (h0 : Heap) (n0 : Nat)  :
    MetFree l (⟨"com/example/libbuchi/libbuchi/automata/TextCursorIsIdentifierStartPinLaw", "ref", "(I)Z"⟩ : MethodName) (head1 (Jvm.Cond.code (⟨"com/example/libbuchi/libbuchi/automata/TextCursorIsIdentifierStartPinLaw", "ref", "(I)Z"⟩ : MethodName) method_2_code 5 (some (.boolean)) :: ws) ({ frames := 0, cells := 0, slots := 0, locals := 0 } : Room)) (fun aa U => aa = #[(.int q)] ∧ Z.Warmed39 U.vm ∧ U.heap = h0) (fun _ _ _ _ _ => True) (fun _ U o U' => ∃ v L, o = .returned v ∧ Q_own_rm2 Z q h0 n0 v U'.heap L ∧ FrameEnd U o U' L ({ frames := 0, cells := 0, slots := 0, locals := 0 } : Room).cells ({ frames := 0, cells := 0, slots := 0, locals := 0 } : Room).slots) := by
  refine own_body (x := (⟨"com/example/libbuchi/libbuchi/automata/TextCursorIsIdentifierStartPinLaw", "ref", "(I)Z"⟩ : MethodName)) (maxL := 5) (as' := #[(.int q)]) (Q := Q_own_rm2 Z q h0 n0) pn_own_rm2 #[.val (.int q), .unset, .unset, .unset, .unset] (fun m => by first | rfl | (simp [entryFrame, mkF, argsToLocals, Value.category]; done)) ?_
  intro p e s m below meth c T0 X0 hx hby hml hret hlk hown hnm hZ e0
  replace hml : c.maxLocals = 5 := hml
  replace hown : s.vm.findClass "com/example/libbuchi/libbuchi/automata/TextCursorIsIdentifierStartPinLaw" = some m.cls := hown
  have N0 := Fr.nil n0
  refine own_st (G := T0.setTop (mkF m 1 #[.val (.int q), .unset, .unset, .unset, .unset] [(.int q)])) (fun _ kk => XS.iloadN X0.here hx rfl (hb hby down_rm2_0) rfl kk) ?_
  refine own_st (G := T0.setTop (mkF m 2 #[.val (.int q), .unset, .unset, .unset, .unset] [(.long q.toInt64)])) (fun _ kk => XS.i2l X0.here hx rfl (hb hby down_rm2_1) rfl kk) ?_
  refine own_st (G := T0.setTop (mkF m 3 #[.val (.int q), .val (.long q.toInt64), .second, .unset, .unset] [])) (fun _ kk => XS.lstoreN X0.here hx rfl (hb hby down_rm2_2) rfl (l' := #[.val (.int q), .val (.long q.toInt64), .second, .unset, .unset]) rfl kk) ?_
  refine own_st (G := T0.setTop (mkF m 4 #[.val (.int q), .val (.long q.toInt64), .second, .unset, .unset] [(.long q.toInt64)])) (fun _ kk => XS.lloadN X0.here hx rfl (hb hby down_rm2_3) rfl kk) ?_
  refine own_st (G := T0.setTop (mkF m 7 #[.val (.int q), .val (.long q.toInt64), .second, .unset, .unset] [(.long (97 : Int64)), (.long q.toInt64)])) (fun _ kk => X0.ldc2Long hx hown (mvT hZ (own_w hw 8 rfl)) (g := (mkF m 4 #[.val (.int q), .val (.long q.toInt64), .second, .unset, .unset] [(.long q.toInt64)])) rfl (hb hby down_rm2_4) _ kk) ?_
  refine own_st (G := T0.setTop (mkF m 8 #[.val (.int q), .val (.long q.toInt64), .second, .unset, .unset] [(.long (q.toInt64 - (97 : Int64)))])) (fun _ kk => XS.lsub X0.here hx rfl (hb hby down_rm2_7) rfl kk) ?_
  refine own_st (G := T0.setTop (mkF m 9 #[.val (.int q), .val (.long q.toInt64), .second, .val (.long (q.toInt64 - (97 : Int64))), .second] [])) (fun _ kk => XS.lstoreN X0.here hx rfl (hb hby down_rm2_8) rfl (l' := #[.val (.int q), .val (.long q.toInt64), .second, .val (.long (q.toInt64 - (97 : Int64))), .second]) rfl kk) ?_
  refine own_st (G := T0.setTop (mkF m 10 #[.val (.int q), .val (.long q.toInt64), .second, .val (.long (q.toInt64 - (97 : Int64))), .second] [(.long q.toInt64)])) (fun _ kk => XS.lloadN X0.here hx rfl (hb hby down_rm2_9) rfl kk) ?_
  refine own_st (G := T0.setTop (mkF m 13 #[.val (.int q), .val (.long q.toInt64), .second, .val (.long (q.toInt64 - (97 : Int64))), .second] [(.long (95 : Int64)), (.long q.toInt64)])) (fun _ kk => X0.ldc2Long hx hown (mvT hZ (own_w hw 9 rfl)) (g := (mkF m 10 #[.val (.int q), .val (.long q.toInt64), .second, .val (.long (q.toInt64 - (97 : Int64))), .second] [(.long q.toInt64)])) rfl (hb hby down_rm2_10) _ kk) ?_
  refine own_st (G := T0.setTop (mkF m 14 #[.val (.int q), .val (.long q.toInt64), .second, .val (.long (q.toInt64 - (97 : Int64))), .second] [(.int (BdW.cmpL q.toInt64 (95 : Int64)))])) (fun _ kk => XT.lcmp X0.here hx rfl (hb hby down_rm2_13) rfl kk) ?_
  by_cases hc1 : q.toInt64 = (95 : Int64)
  · skip
    refine own_st (G := T0.setTop (mkF m 17 #[.val (.int q), .val (.long q.toInt64), .second, .val (.long (q.toInt64 - (97 : Int64))), .second] [])) (fun _ kk => XS.ifNo X0.here hx rfl (hb hby down_rm2_14) rfl (XT.ll_ne_f hc1) kk) ?_
    refine own_st (G := T0.setTop (mkF m 18 #[.val (.int q), .val (.long q.toInt64), .second, .val (.long (q.toInt64 - (97 : Int64))), .second] [(.int (1 : Int32))])) (fun _ kk => XT.iconstV X0.here hx rfl (1 : Int32) (hb hby down_rm2_17) (by decide) kk) ?_
    refine own_retB X0 hx hret (by simp) hlk (hb hby down_rm2_18) (by decide) (by decide) ?_
    exact ⟨by rw [show (own_ref q) = (1 : Int32) from by unfold own_ref; rw [if_pos hc1]]; rfl, rfl, e0⟩
  · skip
    refine own_st (G := T0.setTop (mkF m 19 #[.val (.int q), .val (.long q.toInt64), .second, .val (.long (q.toInt64 - (97 : Int64))), .second] [])) (fun _ kk => XS.ifYes X0.here hx rfl (pc0 := 14) (pc' := 19) rfl (hb hby down_rm2_14) rfl (XT.ll_ne_t hc1) (by decide) (by decide) kk) ?_
    refine own_st (G := T0.setTop (mkF m 20 #[.val (.int q), .val (.long q.toInt64), .second, .val (.long (q.toInt64 - (97 : Int64))), .second] [(.long (q.toInt64 - (97 : Int64)))])) (fun _ kk => XS.lloadN X0.here hx rfl (hb hby down_rm2_19) rfl kk) ?_
    refine own_st (G := T0.setTop (mkF m 21 #[.val (.int q), .val (.long q.toInt64), .second, .val (.long (q.toInt64 - (97 : Int64))), .second] [(.long (0 : Int64)), (.long (q.toInt64 - (97 : Int64)))])) (fun _ kk => XT.lconstV X0.here hx rfl (0 : Int64) (hb hby down_rm2_20) (by decide) kk) ?_
    refine own_st (G := T0.setTop (mkF m 22 #[.val (.int q), .val (.long q.toInt64), .second, .val (.long (q.toInt64 - (97 : Int64))), .second] [(.int (BdW.cmpL (q.toInt64 - (97 : Int64)) (0 : Int64)))])) (fun _ kk => XT.lcmp X0.here hx rfl (hb hby down_rm2_21) rfl kk) ?_
    by_cases hc2 : (q.toInt64 - (97 : Int64)) < (0 : Int64)
    · skip
      refine own_st (G := T0.setTop (mkF m 37 #[.val (.int q), .val (.long q.toInt64), .second, .val (.long (q.toInt64 - (97 : Int64))), .second] [])) (fun _ kk => XS.ifYes X0.here hx rfl (pc0 := 22) (pc' := 37) rfl (hb hby down_rm2_22) rfl (XT.ll_lt_t hc2) (by decide) (by decide) kk) ?_
      refine own_st (G := T0.setTop (mkF m 38 #[.val (.int q), .val (.long q.toInt64), .second, .val (.long (q.toInt64 - (97 : Int64))), .second] [(.int (0 : Int32))])) (fun _ kk => XT.iconstV X0.here hx rfl (0 : Int32) (hb hby down_rm2_37) (by decide) kk) ?_
      refine own_retB X0 hx hret (by simp) hlk (hb hby down_rm2_38) (by decide) (by decide) ?_
      exact ⟨by rw [show (own_ref q) = (0 : Int32) from by unfold own_ref; rw [if_neg hc1, if_pos hc2]]; rfl, rfl, e0⟩
    · skip
      refine own_st (G := T0.setTop (mkF m 25 #[.val (.int q), .val (.long q.toInt64), .second, .val (.long (q.toInt64 - (97 : Int64))), .second] [])) (fun _ kk => XS.ifNo X0.here hx rfl (hb hby down_rm2_22) rfl (XT.ll_lt_f hc2) kk) ?_
      refine own_st (G := T0.setTop (mkF m 26 #[.val (.int q), .val (.long q.toInt64), .second, .val (.long (q.toInt64 - (97 : Int64))), .second] [(.long (q.toInt64 - (97 : Int64)))])) (fun _ kk => XS.lloadN X0.here hx rfl (hb hby down_rm2_25) rfl kk) ?_
      refine own_st (G := T0.setTop (mkF m 29 #[.val (.int q), .val (.long q.toInt64), .second, .val (.long (q.toInt64 - (97 : Int64))), .second] [(.long (26 : Int64)), (.long (q.toInt64 - (97 : Int64)))])) (fun _ kk => X0.ldc2Long hx hown (mvT hZ (own_w hw 11 rfl)) (g := (mkF m 26 #[.val (.int q), .val (.long q.toInt64), .second, .val (.long (q.toInt64 - (97 : Int64))), .second] [(.long (q.toInt64 - (97 : Int64)))])) rfl (hb hby down_rm2_26) _ kk) ?_
      refine own_st (G := T0.setTop (mkF m 30 #[.val (.int q), .val (.long q.toInt64), .second, .val (.long (q.toInt64 - (97 : Int64))), .second] [(.int (BdW.cmpL (q.toInt64 - (97 : Int64)) (26 : Int64)))])) (fun _ kk => XT.lcmp X0.here hx rfl (hb hby down_rm2_29) rfl kk) ?_
      by_cases hc3 : (q.toInt64 - (97 : Int64)) < (26 : Int64)
      · skip
        refine own_st (G := T0.setTop (mkF m 33 #[.val (.int q), .val (.long q.toInt64), .second, .val (.long (q.toInt64 - (97 : Int64))), .second] [])) (fun _ kk => XS.ifNo X0.here hx rfl (hb hby down_rm2_30) rfl (XT.ll_ge_f hc3) kk) ?_
        refine own_st (G := T0.setTop (mkF m 34 #[.val (.int q), .val (.long q.toInt64), .second, .val (.long (q.toInt64 - (97 : Int64))), .second] [(.int (1 : Int32))])) (fun _ kk => XT.iconstV X0.here hx rfl (1 : Int32) (hb hby down_rm2_33) (by decide) kk) ?_
        refine own_st (G := T0.setTop (mkF m 38 #[.val (.int q), .val (.long q.toInt64), .second, .val (.long (q.toInt64 - (97 : Int64))), .second] [(.int (1 : Int32))])) (fun _ kk => XS.goto X0.here hx rfl (pc0 := 34) (pc' := 38) rfl (hb hby down_rm2_34) (by decide) (by decide) kk) ?_
        refine own_retB X0 hx hret (by simp) hlk (hb hby down_rm2_38) (by decide) (by decide) ?_
        exact ⟨by rw [show (own_ref q) = (1 : Int32) from by unfold own_ref; rw [if_neg hc1, if_neg hc2, if_pos hc3]]; rfl, rfl, e0⟩
      · skip
        refine own_st (G := T0.setTop (mkF m 37 #[.val (.int q), .val (.long q.toInt64), .second, .val (.long (q.toInt64 - (97 : Int64))), .second] [])) (fun _ kk => XS.ifYes X0.here hx rfl (pc0 := 30) (pc' := 37) rfl (hb hby down_rm2_30) rfl (XT.ll_ge_t hc3) (by decide) (by decide) kk) ?_
        refine own_st (G := T0.setTop (mkF m 38 #[.val (.int q), .val (.long q.toInt64), .second, .val (.long (q.toInt64 - (97 : Int64))), .second] [(.int (0 : Int32))])) (fun _ kk => XT.iconstV X0.here hx rfl (0 : Int32) (hb hby down_rm2_37) (by decide) kk) ?_
        refine own_retB X0 hx hret (by simp) hlk (hb hby down_rm2_38) (by decide) (by decide) ?_
        exact ⟨by rw [show (own_ref q) = (0 : Int32) from by unfold own_ref; rw [if_neg hc1, if_neg hc2, if_neg hc3]]; rfl, rfl, e0⟩
theorem own_same (q : Int32) : own_isS q = own_ref q := by
  have b1 := Int32.toInt_lt q
  have b2 := Int32.le_toInt q
  have e : (q.toInt64 - (97 : Int64)).toInt = q.toInt - 97 := by
    rw [Jvm.Kit.i64_sub (by rw [Int32.toInt_toInt64]; simp only [Int64.reduceToInt]; omega) (by rw [Int32.toInt_toInt64]; simp only [Int64.reduceToInt]; omega), Int32.toInt_toInt64]
    rfl
  unfold own_isS own_ref
  simp only [Int32.lt_iff_toInt_lt, ← Int32.toInt_inj, Int64.lt_iff_toInt_lt, ← Int64.toInt_inj, e, Int32.toInt_toInt64, Int32.reduceToInt, Int64.reduceToInt]
  repeat' split
  all_goals first | rfl | (exfalso; omega)
theorem own_mem (y v : Int32) (hv : ((y &&& (2147483647 : Int32)) % (27 : Int32)) = v) (h : v < (26 : Int32)) : ¬ own_isS ((97 : Int32) + v) = (0 : Int32) := by
  have e1 : (y &&& (2147483647 : Int32)).toInt = y.toInt % 2 ^ 31 := Jvm.Kit.i32_mask y 2147483647 (k := 31) (by decide) (by decide)
  have e2 : v.toInt = (y &&& (2147483647 : Int32)).toInt % 27 := by
    rw [← hv, Jvm.Kit.i32_rem_nonneg (by omega)]; rfl
  rw [Int32.lt_iff_toInt_lt] at h
  simp only [Int32.reduceToInt] at h
  have e3 : ((97 : Int32) + v).toInt = 97 + v.toInt := Jvm.Kit.i32_add (by simp only [Int32.reduceToInt]; omega) (by simp only [Int32.reduceToInt]; omega)
  unfold own_isS
  simp only [Int32.lt_iff_toInt_lt, ← Int32.toInt_inj, e3, Int32.reduceToInt]
  repeat' split
  all_goals first | (exfalso; omega) | decide
theorem pn_own_law : plainName "com/example/libbuchi/libbuchi/automata/TextCursorIsIdentifierStartPinLaw" = true := by first | (simp [plainName, overriddenIn]; done) | decide +kernel
def Q_own_law (Z : State) (p0 : Int32) (p1 : Int32)  (h0 : Heap) (n0 : Nat) (v : Option Value) (h : Heap) (L : List Loc) : Prop := v = some (.int 1) ∧ Fr n0 L
set_option maxRecDepth 65536 in
set_option maxHeartbeats 40000000 in
theorem own_law (l : Launch) (Z : State) (a0 : Array Value) (hw : ∀ d ∈ tables_1, d.before a0 Z = true) (ws : List Jvm.Cond) (p0 : Int32) (p1 : Int32)  (h0 : Heap) (n0 : Nat)  :
    MetFree l x (head1 (Jvm.Cond.code x code maxLocals ret :: ws) room_1) (fun aa U => aa = #[(.int p0), (.int p1)] ∧ Z.Warmed39 U.vm ∧ U.heap = h0) (fun _ _ _ _ _ => True) (fun _ U o U' => ∃ v L, o = .returned v ∧ Q_own_law Z p0 p1 h0 n0 v U'.heap L ∧ FrameEnd U o U' L room_1.cells room_1.slots) := by
  refine own_body (x := x) (maxL := maxLocals) (as' := #[(.int p0), (.int p1)]) (Q := Q_own_law Z p0 p1 h0 n0) pn_own_law #[.val (.int p0), .val (.int p1), .unset, .unset, .unset, .unset, .unset] (fun m => by first | rfl | (simp [entryFrame, mkF, argsToLocals, Value.category, maxLocals]; done)) ?_
  intro p e s m below meth c T0 X0 hx hby hml hret hlk hown hnm hZ e0
  replace hml : c.maxLocals = 7 := hml
  replace hown : s.vm.findClass "com/example/libbuchi/libbuchi/automata/TextCursorIsIdentifierStartPinLaw" = some m.cls := hown
  have N0 := Fr.nil n0
  refine own_st (G := T0.setTop (mkF m 1 #[.val (.int p0), .val (.int p1), .unset, .unset, .unset, .unset, .unset] [(.int p0)])) (fun _ kk => XS.iloadN X0.here hx rfl (hb hby at_0) rfl kk) ?_
  refine own_callS X0 hx hZ (y := (⟨"com/example/libbuchi/libbuchi/automata/TextCursor", "isIdentifierStart", "(I)Z"⟩ : MethodName)) (as' := [(.int p0)]) hown (own_w hw 0 rfl) (own_w hw 1 rfl) (own_w hw 2 rfl) (own_w hw 3 rfl) (by decide) (own_rm1 l Z a0 hw [] p0 h0 n0) 0 (by decide) (by decide) (by decide) (by decide) (rest := []) (by rw [hml]; rfl) (lenOf (by decide : parseMethodDescriptor "(I)Z" = some ⟨[.int], some (.boolean)⟩) rfl) rfl (Nat.le_of_eq rfl) (hb hby at_1) e0 ?_
  intro T3 L4 v6 X5 hQ
  obtain ⟨rfl, rfl, eq1⟩ := hQ
  show own_Out _ _ _ _ (T3.setTop (mkF m 4 #[.val (.int p0), .val (.int p1), .unset, .unset, .unset, .unset, .unset] [(.int (own_isS p0))]))
  have N2 := Fr.app N0 (Fr.nil n0)
  refine own_st (G := T3.setTop (mkF m 5 #[.val (.int p0), .val (.int p1), .unset, .unset, .unset, .unset, .unset] [(.int p0), (.int (own_isS p0))])) (fun _ kk => XS.iloadN X5.here hx rfl (hb hby at_4) rfl kk) ?_
  refine own_callS X5 hx hZ (y := (⟨"com/example/libbuchi/libbuchi/automata/TextCursorIsIdentifierStartPinLaw", "ref", "(I)Z"⟩ : MethodName)) (as' := [(.int p0)]) hown (own_w hw 4 rfl) (own_w hw 5 rfl) (own_w hw 6 rfl) (own_w hw 7 rfl) (by decide) (own_rm2 l Z a0 hw [] p0 h0 n0) 1 (by decide) (by decide) (by decide) (by decide) (rest := [(.int (own_isS p0))]) (by rw [hml]; rfl) (lenOf (by decide : parseMethodDescriptor "(I)Z" = some ⟨[.int], some (.boolean)⟩) rfl) rfl (Nat.le_of_eq rfl) (hb hby at_5) eq1 ?_
  intro T9 L10 v12 X11 hQ
  obtain ⟨rfl, rfl, eq7⟩ := hQ
  show own_Out _ _ _ _ (T9.setTop (mkF m 8 #[.val (.int p0), .val (.int p1), .unset, .unset, .unset, .unset, .unset] [(.int (own_ref p0)), (.int (own_isS p0))]))
  have N8 := Fr.app N2 (Fr.nil n0)
  have hk13 : ((own_isS p0) = (own_ref p0)) := own_same _
  refine own_st (G := T9.setTop (mkF m 11 #[.val (.int p0), .val (.int p1), .unset, .unset, .unset, .unset, .unset] [])) (fun _ kk => XS.icmpNo X11.here hx rfl (hb hby at_8) rfl (XT.ii_ne_f hk13) kk) ?_
  refine own_st (G := T9.setTop (mkF m 12 #[.val (.int p0), .val (.int p1), .unset, .unset, .unset, .unset, .unset] [(.int (1 : Int32))])) (fun _ kk => XT.iconstV X11.here hx rfl (1 : Int32) (hb hby at_11) (by decide) kk) ?_
  refine own_st (G := T9.setTop (mkF m 16 #[.val (.int p0), .val (.int p1), .unset, .unset, .unset, .unset, .unset] [(.int (1 : Int32))])) (fun _ kk => XS.goto X11.here hx rfl (pc0 := 12) (pc' := 16) rfl (hb hby at_12) (by decide) (by decide) kk) ?_
  refine own_st (G := T9.setTop (mkF m 17 #[.val (.int p0), .val (.int p1), .val (.int (1 : Int32)), .unset, .unset, .unset, .unset] [])) (fun _ kk => XS.istoreN X11.here hx rfl (hb hby at_16) rfl (l' := #[.val (.int p0), .val (.int p1), .val (.int (1 : Int32)), .unset, .unset, .unset, .unset]) rfl kk) ?_
  refine own_st (G := T9.setTop (mkF m 18 #[.val (.int p0), .val (.int p1), .val (.int (1 : Int32)), .unset, .unset, .unset, .unset] [(.int p1)])) (fun _ kk => XS.iloadN X11.here hx rfl (hb hby at_17) rfl kk) ?_
  refine own_st (G := T9.setTop (mkF m 20 #[.val (.int p0), .val (.int p1), .val (.int (1 : Int32)), .unset, .unset, .unset, .unset] [(.int (2147483647 : Int32)), (.int p1)])) (fun _ kk => X11.ldcInt hx hown (mvT hZ (own_w hw 10 rfl)) (g := (mkF m 18 #[.val (.int p0), .val (.int p1), .val (.int (1 : Int32)), .unset, .unset, .unset, .unset] [(.int p1)])) rfl (hb hby at_18) _ kk) ?_
  refine own_st (G := T9.setTop (mkF m 21 #[.val (.int p0), .val (.int p1), .val (.int (1 : Int32)), .unset, .unset, .unset, .unset] [(.int (p1 &&& (2147483647 : Int32)))])) (fun _ kk => XS.iand X11.here hx rfl (hb hby at_20) rfl kk) ?_
  refine own_st (G := T9.setTop (mkF m 23 #[.val (.int p0), .val (.int p1), .val (.int (1 : Int32)), .unset, .unset, .unset, .unset] [(.int (27 : Int32)), (.int (p1 &&& (2147483647 : Int32)))])) (fun _ kk => XT.bipushV X11.here hx rfl (27 : Int32) (hb hby at_21) (by decide) kk) ?_
  refine own_st (G := T9.setTop (mkF m 24 #[.val (.int p0), .val (.int p1), .val (.int (1 : Int32)), .unset, .unset, .unset, .unset] [(.int ((p1 &&& (2147483647 : Int32)) % (27 : Int32)))])) (fun _ kk => iremM X11 hx rfl (hb hby at_23) rfl (by decide) kk) ?_
  generalize hv24 : ((p1 &&& (2147483647 : Int32)) % (27 : Int32)) = v24
  refine own_st (G := T9.setTop (mkF m 25 #[.val (.int p0), .val (.int p1), .val (.int (1 : Int32)), .val (.int v24), .unset, .unset, .unset] [])) (fun _ kk => XS.istoreN X11.here hx rfl (hb hby at_24) rfl (l' := #[.val (.int p0), .val (.int p1), .val (.int (1 : Int32)), .val (.int v24), .unset, .unset, .unset]) rfl kk) ?_
  refine own_st (G := T9.setTop (mkF m 26 #[.val (.int p0), .val (.int p1), .val (.int (1 : Int32)), .val (.int v24), .unset, .unset, .unset] [(.int v24)])) (fun _ kk => XS.iloadN X11.here hx rfl (hb hby at_25) rfl kk) ?_
  refine own_st (G := T9.setTop (mkF m 28 #[.val (.int p0), .val (.int p1), .val (.int (1 : Int32)), .val (.int v24), .unset, .unset, .unset] [(.int (26 : Int32)), (.int v24)])) (fun _ kk => XT.bipushV X11.here hx rfl (26 : Int32) (hb hby at_26) (by decide) kk) ?_
  by_cases hc14 : v24 < (26 : Int32)
  · skip
    refine own_st (G := T9.setTop (mkF m 31 #[.val (.int p0), .val (.int p1), .val (.int (1 : Int32)), .val (.int v24), .unset, .unset, .unset] [])) (fun _ kk => XS.icmpNo X11.here hx rfl (hb hby at_28) rfl (XT.ii_ge_f hc14) kk) ?_
    refine own_st (G := T9.setTop (mkF m 33 #[.val (.int p0), .val (.int p1), .val (.int (1 : Int32)), .val (.int v24), .unset, .unset, .unset] [(.int (97 : Int32))])) (fun _ kk => XT.bipushV X11.here hx rfl (97 : Int32) (hb hby at_31) (by decide) kk) ?_
    refine own_st (G := T9.setTop (mkF m 34 #[.val (.int p0), .val (.int p1), .val (.int (1 : Int32)), .val (.int v24), .unset, .unset, .unset] [(.int v24), (.int (97 : Int32))])) (fun _ kk => XS.iloadN X11.here hx rfl (hb hby at_33) rfl kk) ?_
    refine own_st (G := T9.setTop (mkF m 35 #[.val (.int p0), .val (.int p1), .val (.int (1 : Int32)), .val (.int v24), .unset, .unset, .unset] [(.int ((97 : Int32) + v24))])) (fun _ kk => XS.iadd X11.here hx rfl (hb hby at_34) rfl kk) ?_
    refine own_st (G := T9.setTop (mkF m 40 #[.val (.int p0), .val (.int p1), .val (.int (1 : Int32)), .val (.int v24), .unset, .unset, .unset] [(.int ((97 : Int32) + v24))])) (fun _ kk => XS.goto X11.here hx rfl (pc0 := 35) (pc' := 40) rfl (hb hby at_35) (by decide) (by decide) kk) ?_
    refine own_st (G := T9.setTop (mkF m 42 #[.val (.int p0), .val (.int p1), .val (.int (1 : Int32)), .val (.int v24), .val (.int ((97 : Int32) + v24)), .unset, .unset] [])) (fun _ kk => XS.istore X11.here hx rfl (hb hby at_40) rfl (l' := #[.val (.int p0), .val (.int p1), .val (.int (1 : Int32)), .val (.int v24), .val (.int ((97 : Int32) + v24)), .unset, .unset]) rfl kk) ?_
    refine own_st (G := T9.setTop (mkF m 44 #[.val (.int p0), .val (.int p1), .val (.int (1 : Int32)), .val (.int v24), .val (.int ((97 : Int32) + v24)), .unset, .unset] [(.int ((97 : Int32) + v24))])) (fun _ kk => XS.iload X11.here hx rfl (hb hby at_42) rfl kk) ?_
    refine own_callS X11 hx hZ (y := (⟨"com/example/libbuchi/libbuchi/automata/TextCursor", "isIdentifierStart", "(I)Z"⟩ : MethodName)) (as' := [(.int ((97 : Int32) + v24))]) hown (own_w hw 0 rfl) (own_w hw 1 rfl) (own_w hw 2 rfl) (own_w hw 3 rfl) (by decide) (own_rm1 l Z a0 hw [] ((97 : Int32) + v24) h0 n0) 0 (by decide) (by decide) (by decide) (by decide) (rest := []) (by rw [hml]; rfl) (lenOf (by decide : parseMethodDescriptor "(I)Z" = some ⟨[.int], some (.boolean)⟩) rfl) rfl (Nat.le_of_eq rfl) (hb hby at_44) eq7 ?_
    intro T17 L18 v20 X19 hQ
    obtain ⟨rfl, rfl, eq15⟩ := hQ
    show own_Out _ _ _ _ (T17.setTop (mkF m 47 #[.val (.int p0), .val (.int p1), .val (.int (1 : Int32)), .val (.int v24), .val (.int ((97 : Int32) + v24)), .unset, .unset] [(.int (own_isS ((97 : Int32) + v24)))]))
    have N16 := Fr.app N8 (Fr.nil n0)
    refine own_st (G := T17.setTop (mkF m 49 #[.val (.int p0), .val (.int p1), .val (.int (1 : Int32)), .val (.int v24), .val (.int ((97 : Int32) + v24)), .val (.int (own_isS ((97 : Int32) + v24))), .unset] [])) (fun _ kk => XS.istore X19.here hx rfl (hb hby at_47) rfl (l' := #[.val (.int p0), .val (.int p1), .val (.int (1 : Int32)), .val (.int v24), .val (.int ((97 : Int32) + v24)), .val (.int (own_isS ((97 : Int32) + v24))), .unset]) rfl kk) ?_
    refine own_st (G := T17.setTop (mkF m 51 #[.val (.int p0), .val (.int p1), .val (.int (1 : Int32)), .val (.int v24), .val (.int ((97 : Int32) + v24)), .val (.int (own_isS ((97 : Int32) + v24))), .unset] [(.int (96 : Int32))])) (fun _ kk => XT.bipushV X19.here hx rfl (96 : Int32) (hb hby at_49) (by decide) kk) ?_
    refine own_callS X19 hx hZ (y := (⟨"com/example/libbuchi/libbuchi/automata/TextCursor", "isIdentifierStart", "(I)Z"⟩ : MethodName)) (as' := [(.int (96 : Int32))]) hown (own_w hw 0 rfl) (own_w hw 1 rfl) (own_w hw 2 rfl) (own_w hw 3 rfl) (by decide) (own_rm1 l Z a0 hw [] (96 : Int32) h0 n0) 0 (by decide) (by decide) (by decide) (by decide) (rest := []) (by rw [hml]; rfl) (lenOf (by decide : parseMethodDescriptor "(I)Z" = some ⟨[.int], some (.boolean)⟩) rfl) rfl (Nat.le_of_eq rfl) (hb hby at_51) eq15 ?_
    intro T23 L24 v26 X25 hQ
    obtain ⟨rfl, rfl, eq21⟩ := hQ
    show own_Out _ _ _ _ (T23.setTop (mkF m 54 #[.val (.int p0), .val (.int p1), .val (.int (1 : Int32)), .val (.int v24), .val (.int ((97 : Int32) + v24)), .val (.int (own_isS ((97 : Int32) + v24))), .unset] [(.int (own_isS (96 : Int32)))]))
    have N22 := Fr.app N16 (Fr.nil n0)
    have hk27 : ((own_isS (96 : Int32)) = (0 : Int32)) := by decide +kernel
    refine own_st (G := T23.setTop (mkF m 57 #[.val (.int p0), .val (.int p1), .val (.int (1 : Int32)), .val (.int v24), .val (.int ((97 : Int32) + v24)), .val (.int (own_isS ((97 : Int32) + v24))), .unset] [])) (fun _ kk => XS.ifNo X25.here hx rfl (hb hby at_54) rfl (XT.i0_ne_f hk27) kk) ?_
    refine own_st (G := T23.setTop (mkF m 59 #[.val (.int p0), .val (.int p1), .val (.int (1 : Int32)), .val (.int v24), .val (.int ((97 : Int32) + v24)), .val (.int (own_isS ((97 : Int32) + v24))), .unset] [(.int (123 : Int32))])) (fun _ kk => XT.bipushV X25.here hx rfl (123 : Int32) (hb hby at_57) (by decide) kk) ?_
    refine own_callS X25 hx hZ (y := (⟨"com/example/libbuchi/libbuchi/automata/TextCursor", "isIdentifierStart", "(I)Z"⟩ : MethodName)) (as' := [(.int (123 : Int32))]) hown (own_w hw 0 rfl) (own_w hw 1 rfl) (own_w hw 2 rfl) (own_w hw 3 rfl) (by decide) (own_rm1 l Z a0 hw [] (123 : Int32) h0 n0) 0 (by decide) (by decide) (by decide) (by decide) (rest := []) (by rw [hml]; rfl) (lenOf (by decide : parseMethodDescriptor "(I)Z" = some ⟨[.int], some (.boolean)⟩) rfl) rfl (Nat.le_of_eq rfl) (hb hby at_59) eq21 ?_
    intro T30 L31 v33 X32 hQ
    obtain ⟨rfl, rfl, eq28⟩ := hQ
    show own_Out _ _ _ _ (T30.setTop (mkF m 62 #[.val (.int p0), .val (.int p1), .val (.int (1 : Int32)), .val (.int v24), .val (.int ((97 : Int32) + v24)), .val (.int (own_isS ((97 : Int32) + v24))), .unset] [(.int (own_isS (123 : Int32)))]))
    have N29 := Fr.app N22 (Fr.nil n0)
    have hk34 : ((own_isS (123 : Int32)) = (0 : Int32)) := by decide +kernel
    refine own_st (G := T30.setTop (mkF m 65 #[.val (.int p0), .val (.int p1), .val (.int (1 : Int32)), .val (.int v24), .val (.int ((97 : Int32) + v24)), .val (.int (own_isS ((97 : Int32) + v24))), .unset] [])) (fun _ kk => XS.ifNo X32.here hx rfl (hb hby at_62) rfl (XT.i0_ne_f hk34) kk) ?_
    refine own_st (G := T30.setTop (mkF m 67 #[.val (.int p0), .val (.int p1), .val (.int (1 : Int32)), .val (.int v24), .val (.int ((97 : Int32) + v24)), .val (.int (own_isS ((97 : Int32) + v24))), .unset] [(.int (94 : Int32))])) (fun _ kk => XT.bipushV X32.here hx rfl (94 : Int32) (hb hby at_65) (by decide) kk) ?_
    refine own_callS X32 hx hZ (y := (⟨"com/example/libbuchi/libbuchi/automata/TextCursor", "isIdentifierStart", "(I)Z"⟩ : MethodName)) (as' := [(.int (94 : Int32))]) hown (own_w hw 0 rfl) (own_w hw 1 rfl) (own_w hw 2 rfl) (own_w hw 3 rfl) (by decide) (own_rm1 l Z a0 hw [] (94 : Int32) h0 n0) 0 (by decide) (by decide) (by decide) (by decide) (rest := []) (by rw [hml]; rfl) (lenOf (by decide : parseMethodDescriptor "(I)Z" = some ⟨[.int], some (.boolean)⟩) rfl) rfl (Nat.le_of_eq rfl) (hb hby at_67) eq28 ?_
    intro T37 L38 v40 X39 hQ
    obtain ⟨rfl, rfl, eq35⟩ := hQ
    show own_Out _ _ _ _ (T37.setTop (mkF m 70 #[.val (.int p0), .val (.int p1), .val (.int (1 : Int32)), .val (.int v24), .val (.int ((97 : Int32) + v24)), .val (.int (own_isS ((97 : Int32) + v24))), .unset] [(.int (own_isS (94 : Int32)))]))
    have N36 := Fr.app N29 (Fr.nil n0)
    have hk41 : ((own_isS (94 : Int32)) = (0 : Int32)) := by decide +kernel
    refine own_st (G := T37.setTop (mkF m 73 #[.val (.int p0), .val (.int p1), .val (.int (1 : Int32)), .val (.int v24), .val (.int ((97 : Int32) + v24)), .val (.int (own_isS ((97 : Int32) + v24))), .unset] [])) (fun _ kk => XS.ifNo X39.here hx rfl (hb hby at_70) rfl (XT.i0_ne_f hk41) kk) ?_
    refine own_st (G := T37.setTop (mkF m 74 #[.val (.int p0), .val (.int p1), .val (.int (1 : Int32)), .val (.int v24), .val (.int ((97 : Int32) + v24)), .val (.int (own_isS ((97 : Int32) + v24))), .unset] [(.int (-1 : Int32))])) (fun _ kk => XT.iconstV X39.here hx rfl (-1 : Int32) (hb hby at_73) (by decide) kk) ?_
    refine own_callS X39 hx hZ (y := (⟨"com/example/libbuchi/libbuchi/automata/TextCursor", "isIdentifierStart", "(I)Z"⟩ : MethodName)) (as' := [(.int (-1 : Int32))]) hown (own_w hw 0 rfl) (own_w hw 1 rfl) (own_w hw 2 rfl) (own_w hw 3 rfl) (by decide) (own_rm1 l Z a0 hw [] (-1 : Int32) h0 n0) 0 (by decide) (by decide) (by decide) (by decide) (rest := []) (by rw [hml]; rfl) (lenOf (by decide : parseMethodDescriptor "(I)Z" = some ⟨[.int], some (.boolean)⟩) rfl) rfl (Nat.le_of_eq rfl) (hb hby at_74) eq35 ?_
    intro T44 L45 v47 X46 hQ
    obtain ⟨rfl, rfl, eq42⟩ := hQ
    show own_Out _ _ _ _ (T44.setTop (mkF m 77 #[.val (.int p0), .val (.int p1), .val (.int (1 : Int32)), .val (.int v24), .val (.int ((97 : Int32) + v24)), .val (.int (own_isS ((97 : Int32) + v24))), .unset] [(.int (own_isS (-1 : Int32)))]))
    have N43 := Fr.app N36 (Fr.nil n0)
    have hk48 : ((own_isS (-1 : Int32)) = (0 : Int32)) := by decide +kernel
    refine own_st (G := T44.setTop (mkF m 80 #[.val (.int p0), .val (.int p1), .val (.int (1 : Int32)), .val (.int v24), .val (.int ((97 : Int32) + v24)), .val (.int (own_isS ((97 : Int32) + v24))), .unset] [])) (fun _ kk => XS.ifNo X46.here hx rfl (hb hby at_77) rfl (XT.i0_ne_f hk48) kk) ?_
    refine own_st (G := T44.setTop (mkF m 82 #[.val (.int p0), .val (.int p1), .val (.int (1 : Int32)), .val (.int v24), .val (.int ((97 : Int32) + v24)), .val (.int (own_isS ((97 : Int32) + v24))), .unset] [(.int (65 : Int32))])) (fun _ kk => XT.bipushV X46.here hx rfl (65 : Int32) (hb hby at_80) (by decide) kk) ?_
    refine own_callS X46 hx hZ (y := (⟨"com/example/libbuchi/libbuchi/automata/TextCursor", "isIdentifierStart", "(I)Z"⟩ : MethodName)) (as' := [(.int (65 : Int32))]) hown (own_w hw 0 rfl) (own_w hw 1 rfl) (own_w hw 2 rfl) (own_w hw 3 rfl) (by decide) (own_rm1 l Z a0 hw [] (65 : Int32) h0 n0) 0 (by decide) (by decide) (by decide) (by decide) (rest := []) (by rw [hml]; rfl) (lenOf (by decide : parseMethodDescriptor "(I)Z" = some ⟨[.int], some (.boolean)⟩) rfl) rfl (Nat.le_of_eq rfl) (hb hby at_82) eq42 ?_
    intro T51 L52 v54 X53 hQ
    obtain ⟨rfl, rfl, eq49⟩ := hQ
    show own_Out _ _ _ _ (T51.setTop (mkF m 85 #[.val (.int p0), .val (.int p1), .val (.int (1 : Int32)), .val (.int v24), .val (.int ((97 : Int32) + v24)), .val (.int (own_isS ((97 : Int32) + v24))), .unset] [(.int (own_isS (65 : Int32)))]))
    have N50 := Fr.app N43 (Fr.nil n0)
    have hk55 : ((own_isS (65 : Int32)) = (0 : Int32)) := by decide +kernel
    refine own_st (G := T51.setTop (mkF m 88 #[.val (.int p0), .val (.int p1), .val (.int (1 : Int32)), .val (.int v24), .val (.int ((97 : Int32) + v24)), .val (.int (own_isS ((97 : Int32) + v24))), .unset] [])) (fun _ kk => XS.ifNo X53.here hx rfl (hb hby at_85) rfl (XT.i0_ne_f hk55) kk) ?_
    refine own_st (G := T51.setTop (mkF m 90 #[.val (.int p0), .val (.int p1), .val (.int (1 : Int32)), .val (.int v24), .val (.int ((97 : Int32) + v24)), .val (.int (own_isS ((97 : Int32) + v24))), .unset] [(.int (48 : Int32))])) (fun _ kk => XT.bipushV X53.here hx rfl (48 : Int32) (hb hby at_88) (by decide) kk) ?_
    refine own_callS X53 hx hZ (y := (⟨"com/example/libbuchi/libbuchi/automata/TextCursor", "isIdentifierStart", "(I)Z"⟩ : MethodName)) (as' := [(.int (48 : Int32))]) hown (own_w hw 0 rfl) (own_w hw 1 rfl) (own_w hw 2 rfl) (own_w hw 3 rfl) (by decide) (own_rm1 l Z a0 hw [] (48 : Int32) h0 n0) 0 (by decide) (by decide) (by decide) (by decide) (rest := []) (by rw [hml]; rfl) (lenOf (by decide : parseMethodDescriptor "(I)Z" = some ⟨[.int], some (.boolean)⟩) rfl) rfl (Nat.le_of_eq rfl) (hb hby at_90) eq49 ?_
    intro T58 L59 v61 X60 hQ
    obtain ⟨rfl, rfl, eq56⟩ := hQ
    show own_Out _ _ _ _ (T58.setTop (mkF m 93 #[.val (.int p0), .val (.int p1), .val (.int (1 : Int32)), .val (.int v24), .val (.int ((97 : Int32) + v24)), .val (.int (own_isS ((97 : Int32) + v24))), .unset] [(.int (own_isS (48 : Int32)))]))
    have N57 := Fr.app N50 (Fr.nil n0)
    have hk62 : ((own_isS (48 : Int32)) = (0 : Int32)) := by decide +kernel
    refine own_st (G := T58.setTop (mkF m 96 #[.val (.int p0), .val (.int p1), .val (.int (1 : Int32)), .val (.int v24), .val (.int ((97 : Int32) + v24)), .val (.int (own_isS ((97 : Int32) + v24))), .unset] [])) (fun _ kk => XS.ifNo X60.here hx rfl (hb hby at_93) rfl (XT.i0_ne_f hk62) kk) ?_
    refine own_st (G := T58.setTop (mkF m 97 #[.val (.int p0), .val (.int p1), .val (.int (1 : Int32)), .val (.int v24), .val (.int ((97 : Int32) + v24)), .val (.int (own_isS ((97 : Int32) + v24))), .unset] [(.int (1 : Int32))])) (fun _ kk => XT.iconstV X60.here hx rfl (1 : Int32) (hb hby at_96) (by decide) kk) ?_
    refine own_st (G := T58.setTop (mkF m 101 #[.val (.int p0), .val (.int p1), .val (.int (1 : Int32)), .val (.int v24), .val (.int ((97 : Int32) + v24)), .val (.int (own_isS ((97 : Int32) + v24))), .unset] [(.int (1 : Int32))])) (fun _ kk => XS.goto X60.here hx rfl (pc0 := 97) (pc' := 101) rfl (hb hby at_97) (by decide) (by decide) kk) ?_
    refine own_st (G := T58.setTop (mkF m 103 #[.val (.int p0), .val (.int p1), .val (.int (1 : Int32)), .val (.int v24), .val (.int ((97 : Int32) + v24)), .val (.int (own_isS ((97 : Int32) + v24))), .val (.int (1 : Int32))] [])) (fun _ kk => XS.istore X60.here hx rfl (hb hby at_101) rfl (l' := #[.val (.int p0), .val (.int p1), .val (.int (1 : Int32)), .val (.int v24), .val (.int ((97 : Int32) + v24)), .val (.int (own_isS ((97 : Int32) + v24))), .val (.int (1 : Int32))]) rfl kk) ?_
    refine own_st (G := T58.setTop (mkF m 104 #[.val (.int p0), .val (.int p1), .val (.int (1 : Int32)), .val (.int v24), .val (.int ((97 : Int32) + v24)), .val (.int (own_isS ((97 : Int32) + v24))), .val (.int (1 : Int32))] [(.int (1 : Int32))])) (fun _ kk => XS.iloadN X60.here hx rfl (hb hby at_103) rfl kk) ?_
    refine own_st (G := T58.setTop (mkF m 107 #[.val (.int p0), .val (.int p1), .val (.int (1 : Int32)), .val (.int v24), .val (.int ((97 : Int32) + v24)), .val (.int (own_isS ((97 : Int32) + v24))), .val (.int (1 : Int32))] [])) (fun _ kk => XS.ifNo X60.here hx rfl (hb hby at_104) rfl (XT.i0_eq_f (by decide : ¬ (1 : Int32) = (0 : Int32))) kk) ?_
    refine own_st (G := T58.setTop (mkF m 109 #[.val (.int p0), .val (.int p1), .val (.int (1 : Int32)), .val (.int v24), .val (.int ((97 : Int32) + v24)), .val (.int (own_isS ((97 : Int32) + v24))), .val (.int (1 : Int32))] [(.int (own_isS ((97 : Int32) + v24)))])) (fun _ kk => XS.iload X60.here hx rfl (hb hby at_107) rfl kk) ?_
    have hk63 : ¬ ((own_isS ((97 : Int32) + v24)) = (0 : Int32)) := own_mem p1 v24 hv24 hc14
    refine own_st (G := T58.setTop (mkF m 112 #[.val (.int p0), .val (.int p1), .val (.int (1 : Int32)), .val (.int v24), .val (.int ((97 : Int32) + v24)), .val (.int (own_isS ((97 : Int32) + v24))), .val (.int (1 : Int32))] [])) (fun _ kk => XS.ifNo X60.here hx rfl (hb hby at_109) rfl (XT.i0_eq_f hk63) kk) ?_
    refine own_st (G := T58.setTop (mkF m 114 #[.val (.int p0), .val (.int p1), .val (.int (1 : Int32)), .val (.int v24), .val (.int ((97 : Int32) + v24)), .val (.int (own_isS ((97 : Int32) + v24))), .val (.int (1 : Int32))] [(.int (1 : Int32))])) (fun _ kk => XS.iload X60.here hx rfl (hb hby at_112) rfl kk) ?_
    refine own_st (G := T58.setTop (mkF m 117 #[.val (.int p0), .val (.int p1), .val (.int (1 : Int32)), .val (.int v24), .val (.int ((97 : Int32) + v24)), .val (.int (own_isS ((97 : Int32) + v24))), .val (.int (1 : Int32))] [])) (fun _ kk => XS.ifNo X60.here hx rfl (hb hby at_114) rfl (XT.i0_eq_f (by decide : ¬ (1 : Int32) = (0 : Int32))) kk) ?_
    refine own_st (G := T58.setTop (mkF m 118 #[.val (.int p0), .val (.int p1), .val (.int (1 : Int32)), .val (.int v24), .val (.int ((97 : Int32) + v24)), .val (.int (own_isS ((97 : Int32) + v24))), .val (.int (1 : Int32))] [(.int (1 : Int32))])) (fun _ kk => XT.iconstV X60.here hx rfl (1 : Int32) (hb hby at_117) (by decide) kk) ?_
    refine own_st (G := T58.setTop (mkF m 122 #[.val (.int p0), .val (.int p1), .val (.int (1 : Int32)), .val (.int v24), .val (.int ((97 : Int32) + v24)), .val (.int (own_isS ((97 : Int32) + v24))), .val (.int (1 : Int32))] [(.int (1 : Int32))])) (fun _ kk => XS.goto X60.here hx rfl (pc0 := 118) (pc' := 122) rfl (hb hby at_118) (by decide) (by decide) kk) ?_
    refine own_retB X60 hx hret (by simp) hlk (hb hby at_122) (by decide) (by decide) ?_
    exact ⟨rfl, N57⟩
  · skip
    refine own_st (G := T9.setTop (mkF m 38 #[.val (.int p0), .val (.int p1), .val (.int (1 : Int32)), .val (.int v24), .unset, .unset, .unset] [])) (fun _ kk => XS.icmpYes X11.here hx rfl (pc0 := 28) (pc' := 38) rfl (hb hby at_28) rfl (XT.ii_ge_t hc14) (by decide) (by decide) kk) ?_
    refine own_st (G := T9.setTop (mkF m 40 #[.val (.int p0), .val (.int p1), .val (.int (1 : Int32)), .val (.int v24), .unset, .unset, .unset] [(.int (95 : Int32))])) (fun _ kk => XT.bipushV X11.here hx rfl (95 : Int32) (hb hby at_38) (by decide) kk) ?_
    refine own_st (G := T9.setTop (mkF m 42 #[.val (.int p0), .val (.int p1), .val (.int (1 : Int32)), .val (.int v24), .val (.int (95 : Int32)), .unset, .unset] [])) (fun _ kk => XS.istore X11.here hx rfl (hb hby at_40) rfl (l' := #[.val (.int p0), .val (.int p1), .val (.int (1 : Int32)), .val (.int v24), .val (.int (95 : Int32)), .unset, .unset]) rfl kk) ?_
    refine own_st (G := T9.setTop (mkF m 44 #[.val (.int p0), .val (.int p1), .val (.int (1 : Int32)), .val (.int v24), .val (.int (95 : Int32)), .unset, .unset] [(.int (95 : Int32))])) (fun _ kk => XS.iload X11.here hx rfl (hb hby at_42) rfl kk) ?_
    refine own_callS X11 hx hZ (y := (⟨"com/example/libbuchi/libbuchi/automata/TextCursor", "isIdentifierStart", "(I)Z"⟩ : MethodName)) (as' := [(.int (95 : Int32))]) hown (own_w hw 0 rfl) (own_w hw 1 rfl) (own_w hw 2 rfl) (own_w hw 3 rfl) (by decide) (own_rm1 l Z a0 hw [] (95 : Int32) h0 n0) 0 (by decide) (by decide) (by decide) (by decide) (rest := []) (by rw [hml]; rfl) (lenOf (by decide : parseMethodDescriptor "(I)Z" = some ⟨[.int], some (.boolean)⟩) rfl) rfl (Nat.le_of_eq rfl) (hb hby at_44) eq7 ?_
    intro T66 L67 v69 X68 hQ
    obtain ⟨rfl, rfl, eq64⟩ := hQ
    show own_Out _ _ _ _ (T66.setTop (mkF m 47 #[.val (.int p0), .val (.int p1), .val (.int (1 : Int32)), .val (.int v24), .val (.int (95 : Int32)), .unset, .unset] [(.int (own_isS (95 : Int32)))]))
    have N65 := Fr.app N8 (Fr.nil n0)
    refine own_st (G := T66.setTop (mkF m 49 #[.val (.int p0), .val (.int p1), .val (.int (1 : Int32)), .val (.int v24), .val (.int (95 : Int32)), .val (.int (own_isS (95 : Int32))), .unset] [])) (fun _ kk => XS.istore X68.here hx rfl (hb hby at_47) rfl (l' := #[.val (.int p0), .val (.int p1), .val (.int (1 : Int32)), .val (.int v24), .val (.int (95 : Int32)), .val (.int (own_isS (95 : Int32))), .unset]) rfl kk) ?_
    refine own_st (G := T66.setTop (mkF m 51 #[.val (.int p0), .val (.int p1), .val (.int (1 : Int32)), .val (.int v24), .val (.int (95 : Int32)), .val (.int (own_isS (95 : Int32))), .unset] [(.int (96 : Int32))])) (fun _ kk => XT.bipushV X68.here hx rfl (96 : Int32) (hb hby at_49) (by decide) kk) ?_
    refine own_callS X68 hx hZ (y := (⟨"com/example/libbuchi/libbuchi/automata/TextCursor", "isIdentifierStart", "(I)Z"⟩ : MethodName)) (as' := [(.int (96 : Int32))]) hown (own_w hw 0 rfl) (own_w hw 1 rfl) (own_w hw 2 rfl) (own_w hw 3 rfl) (by decide) (own_rm1 l Z a0 hw [] (96 : Int32) h0 n0) 0 (by decide) (by decide) (by decide) (by decide) (rest := []) (by rw [hml]; rfl) (lenOf (by decide : parseMethodDescriptor "(I)Z" = some ⟨[.int], some (.boolean)⟩) rfl) rfl (Nat.le_of_eq rfl) (hb hby at_51) eq64 ?_
    intro T72 L73 v75 X74 hQ
    obtain ⟨rfl, rfl, eq70⟩ := hQ
    show own_Out _ _ _ _ (T72.setTop (mkF m 54 #[.val (.int p0), .val (.int p1), .val (.int (1 : Int32)), .val (.int v24), .val (.int (95 : Int32)), .val (.int (own_isS (95 : Int32))), .unset] [(.int (own_isS (96 : Int32)))]))
    have N71 := Fr.app N65 (Fr.nil n0)
    have hk76 : ((own_isS (96 : Int32)) = (0 : Int32)) := by decide +kernel
    refine own_st (G := T72.setTop (mkF m 57 #[.val (.int p0), .val (.int p1), .val (.int (1 : Int32)), .val (.int v24), .val (.int (95 : Int32)), .val (.int (own_isS (95 : Int32))), .unset] [])) (fun _ kk => XS.ifNo X74.here hx rfl (hb hby at_54) rfl (XT.i0_ne_f hk76) kk) ?_
    refine own_st (G := T72.setTop (mkF m 59 #[.val (.int p0), .val (.int p1), .val (.int (1 : Int32)), .val (.int v24), .val (.int (95 : Int32)), .val (.int (own_isS (95 : Int32))), .unset] [(.int (123 : Int32))])) (fun _ kk => XT.bipushV X74.here hx rfl (123 : Int32) (hb hby at_57) (by decide) kk) ?_
    refine own_callS X74 hx hZ (y := (⟨"com/example/libbuchi/libbuchi/automata/TextCursor", "isIdentifierStart", "(I)Z"⟩ : MethodName)) (as' := [(.int (123 : Int32))]) hown (own_w hw 0 rfl) (own_w hw 1 rfl) (own_w hw 2 rfl) (own_w hw 3 rfl) (by decide) (own_rm1 l Z a0 hw [] (123 : Int32) h0 n0) 0 (by decide) (by decide) (by decide) (by decide) (rest := []) (by rw [hml]; rfl) (lenOf (by decide : parseMethodDescriptor "(I)Z" = some ⟨[.int], some (.boolean)⟩) rfl) rfl (Nat.le_of_eq rfl) (hb hby at_59) eq70 ?_
    intro T79 L80 v82 X81 hQ
    obtain ⟨rfl, rfl, eq77⟩ := hQ
    show own_Out _ _ _ _ (T79.setTop (mkF m 62 #[.val (.int p0), .val (.int p1), .val (.int (1 : Int32)), .val (.int v24), .val (.int (95 : Int32)), .val (.int (own_isS (95 : Int32))), .unset] [(.int (own_isS (123 : Int32)))]))
    have N78 := Fr.app N71 (Fr.nil n0)
    have hk83 : ((own_isS (123 : Int32)) = (0 : Int32)) := by decide +kernel
    refine own_st (G := T79.setTop (mkF m 65 #[.val (.int p0), .val (.int p1), .val (.int (1 : Int32)), .val (.int v24), .val (.int (95 : Int32)), .val (.int (own_isS (95 : Int32))), .unset] [])) (fun _ kk => XS.ifNo X81.here hx rfl (hb hby at_62) rfl (XT.i0_ne_f hk83) kk) ?_
    refine own_st (G := T79.setTop (mkF m 67 #[.val (.int p0), .val (.int p1), .val (.int (1 : Int32)), .val (.int v24), .val (.int (95 : Int32)), .val (.int (own_isS (95 : Int32))), .unset] [(.int (94 : Int32))])) (fun _ kk => XT.bipushV X81.here hx rfl (94 : Int32) (hb hby at_65) (by decide) kk) ?_
    refine own_callS X81 hx hZ (y := (⟨"com/example/libbuchi/libbuchi/automata/TextCursor", "isIdentifierStart", "(I)Z"⟩ : MethodName)) (as' := [(.int (94 : Int32))]) hown (own_w hw 0 rfl) (own_w hw 1 rfl) (own_w hw 2 rfl) (own_w hw 3 rfl) (by decide) (own_rm1 l Z a0 hw [] (94 : Int32) h0 n0) 0 (by decide) (by decide) (by decide) (by decide) (rest := []) (by rw [hml]; rfl) (lenOf (by decide : parseMethodDescriptor "(I)Z" = some ⟨[.int], some (.boolean)⟩) rfl) rfl (Nat.le_of_eq rfl) (hb hby at_67) eq77 ?_
    intro T86 L87 v89 X88 hQ
    obtain ⟨rfl, rfl, eq84⟩ := hQ
    show own_Out _ _ _ _ (T86.setTop (mkF m 70 #[.val (.int p0), .val (.int p1), .val (.int (1 : Int32)), .val (.int v24), .val (.int (95 : Int32)), .val (.int (own_isS (95 : Int32))), .unset] [(.int (own_isS (94 : Int32)))]))
    have N85 := Fr.app N78 (Fr.nil n0)
    have hk90 : ((own_isS (94 : Int32)) = (0 : Int32)) := by decide +kernel
    refine own_st (G := T86.setTop (mkF m 73 #[.val (.int p0), .val (.int p1), .val (.int (1 : Int32)), .val (.int v24), .val (.int (95 : Int32)), .val (.int (own_isS (95 : Int32))), .unset] [])) (fun _ kk => XS.ifNo X88.here hx rfl (hb hby at_70) rfl (XT.i0_ne_f hk90) kk) ?_
    refine own_st (G := T86.setTop (mkF m 74 #[.val (.int p0), .val (.int p1), .val (.int (1 : Int32)), .val (.int v24), .val (.int (95 : Int32)), .val (.int (own_isS (95 : Int32))), .unset] [(.int (-1 : Int32))])) (fun _ kk => XT.iconstV X88.here hx rfl (-1 : Int32) (hb hby at_73) (by decide) kk) ?_
    refine own_callS X88 hx hZ (y := (⟨"com/example/libbuchi/libbuchi/automata/TextCursor", "isIdentifierStart", "(I)Z"⟩ : MethodName)) (as' := [(.int (-1 : Int32))]) hown (own_w hw 0 rfl) (own_w hw 1 rfl) (own_w hw 2 rfl) (own_w hw 3 rfl) (by decide) (own_rm1 l Z a0 hw [] (-1 : Int32) h0 n0) 0 (by decide) (by decide) (by decide) (by decide) (rest := []) (by rw [hml]; rfl) (lenOf (by decide : parseMethodDescriptor "(I)Z" = some ⟨[.int], some (.boolean)⟩) rfl) rfl (Nat.le_of_eq rfl) (hb hby at_74) eq84 ?_
    intro T93 L94 v96 X95 hQ
    obtain ⟨rfl, rfl, eq91⟩ := hQ
    show own_Out _ _ _ _ (T93.setTop (mkF m 77 #[.val (.int p0), .val (.int p1), .val (.int (1 : Int32)), .val (.int v24), .val (.int (95 : Int32)), .val (.int (own_isS (95 : Int32))), .unset] [(.int (own_isS (-1 : Int32)))]))
    have N92 := Fr.app N85 (Fr.nil n0)
    have hk97 : ((own_isS (-1 : Int32)) = (0 : Int32)) := by decide +kernel
    refine own_st (G := T93.setTop (mkF m 80 #[.val (.int p0), .val (.int p1), .val (.int (1 : Int32)), .val (.int v24), .val (.int (95 : Int32)), .val (.int (own_isS (95 : Int32))), .unset] [])) (fun _ kk => XS.ifNo X95.here hx rfl (hb hby at_77) rfl (XT.i0_ne_f hk97) kk) ?_
    refine own_st (G := T93.setTop (mkF m 82 #[.val (.int p0), .val (.int p1), .val (.int (1 : Int32)), .val (.int v24), .val (.int (95 : Int32)), .val (.int (own_isS (95 : Int32))), .unset] [(.int (65 : Int32))])) (fun _ kk => XT.bipushV X95.here hx rfl (65 : Int32) (hb hby at_80) (by decide) kk) ?_
    refine own_callS X95 hx hZ (y := (⟨"com/example/libbuchi/libbuchi/automata/TextCursor", "isIdentifierStart", "(I)Z"⟩ : MethodName)) (as' := [(.int (65 : Int32))]) hown (own_w hw 0 rfl) (own_w hw 1 rfl) (own_w hw 2 rfl) (own_w hw 3 rfl) (by decide) (own_rm1 l Z a0 hw [] (65 : Int32) h0 n0) 0 (by decide) (by decide) (by decide) (by decide) (rest := []) (by rw [hml]; rfl) (lenOf (by decide : parseMethodDescriptor "(I)Z" = some ⟨[.int], some (.boolean)⟩) rfl) rfl (Nat.le_of_eq rfl) (hb hby at_82) eq91 ?_
    intro T100 L101 v103 X102 hQ
    obtain ⟨rfl, rfl, eq98⟩ := hQ
    show own_Out _ _ _ _ (T100.setTop (mkF m 85 #[.val (.int p0), .val (.int p1), .val (.int (1 : Int32)), .val (.int v24), .val (.int (95 : Int32)), .val (.int (own_isS (95 : Int32))), .unset] [(.int (own_isS (65 : Int32)))]))
    have N99 := Fr.app N92 (Fr.nil n0)
    have hk104 : ((own_isS (65 : Int32)) = (0 : Int32)) := by decide +kernel
    refine own_st (G := T100.setTop (mkF m 88 #[.val (.int p0), .val (.int p1), .val (.int (1 : Int32)), .val (.int v24), .val (.int (95 : Int32)), .val (.int (own_isS (95 : Int32))), .unset] [])) (fun _ kk => XS.ifNo X102.here hx rfl (hb hby at_85) rfl (XT.i0_ne_f hk104) kk) ?_
    refine own_st (G := T100.setTop (mkF m 90 #[.val (.int p0), .val (.int p1), .val (.int (1 : Int32)), .val (.int v24), .val (.int (95 : Int32)), .val (.int (own_isS (95 : Int32))), .unset] [(.int (48 : Int32))])) (fun _ kk => XT.bipushV X102.here hx rfl (48 : Int32) (hb hby at_88) (by decide) kk) ?_
    refine own_callS X102 hx hZ (y := (⟨"com/example/libbuchi/libbuchi/automata/TextCursor", "isIdentifierStart", "(I)Z"⟩ : MethodName)) (as' := [(.int (48 : Int32))]) hown (own_w hw 0 rfl) (own_w hw 1 rfl) (own_w hw 2 rfl) (own_w hw 3 rfl) (by decide) (own_rm1 l Z a0 hw [] (48 : Int32) h0 n0) 0 (by decide) (by decide) (by decide) (by decide) (rest := []) (by rw [hml]; rfl) (lenOf (by decide : parseMethodDescriptor "(I)Z" = some ⟨[.int], some (.boolean)⟩) rfl) rfl (Nat.le_of_eq rfl) (hb hby at_90) eq98 ?_
    intro T107 L108 v110 X109 hQ
    obtain ⟨rfl, rfl, eq105⟩ := hQ
    show own_Out _ _ _ _ (T107.setTop (mkF m 93 #[.val (.int p0), .val (.int p1), .val (.int (1 : Int32)), .val (.int v24), .val (.int (95 : Int32)), .val (.int (own_isS (95 : Int32))), .unset] [(.int (own_isS (48 : Int32)))]))
    have N106 := Fr.app N99 (Fr.nil n0)
    have hk111 : ((own_isS (48 : Int32)) = (0 : Int32)) := by decide +kernel
    refine own_st (G := T107.setTop (mkF m 96 #[.val (.int p0), .val (.int p1), .val (.int (1 : Int32)), .val (.int v24), .val (.int (95 : Int32)), .val (.int (own_isS (95 : Int32))), .unset] [])) (fun _ kk => XS.ifNo X109.here hx rfl (hb hby at_93) rfl (XT.i0_ne_f hk111) kk) ?_
    refine own_st (G := T107.setTop (mkF m 97 #[.val (.int p0), .val (.int p1), .val (.int (1 : Int32)), .val (.int v24), .val (.int (95 : Int32)), .val (.int (own_isS (95 : Int32))), .unset] [(.int (1 : Int32))])) (fun _ kk => XT.iconstV X109.here hx rfl (1 : Int32) (hb hby at_96) (by decide) kk) ?_
    refine own_st (G := T107.setTop (mkF m 101 #[.val (.int p0), .val (.int p1), .val (.int (1 : Int32)), .val (.int v24), .val (.int (95 : Int32)), .val (.int (own_isS (95 : Int32))), .unset] [(.int (1 : Int32))])) (fun _ kk => XS.goto X109.here hx rfl (pc0 := 97) (pc' := 101) rfl (hb hby at_97) (by decide) (by decide) kk) ?_
    refine own_st (G := T107.setTop (mkF m 103 #[.val (.int p0), .val (.int p1), .val (.int (1 : Int32)), .val (.int v24), .val (.int (95 : Int32)), .val (.int (own_isS (95 : Int32))), .val (.int (1 : Int32))] [])) (fun _ kk => XS.istore X109.here hx rfl (hb hby at_101) rfl (l' := #[.val (.int p0), .val (.int p1), .val (.int (1 : Int32)), .val (.int v24), .val (.int (95 : Int32)), .val (.int (own_isS (95 : Int32))), .val (.int (1 : Int32))]) rfl kk) ?_
    refine own_st (G := T107.setTop (mkF m 104 #[.val (.int p0), .val (.int p1), .val (.int (1 : Int32)), .val (.int v24), .val (.int (95 : Int32)), .val (.int (own_isS (95 : Int32))), .val (.int (1 : Int32))] [(.int (1 : Int32))])) (fun _ kk => XS.iloadN X109.here hx rfl (hb hby at_103) rfl kk) ?_
    refine own_st (G := T107.setTop (mkF m 107 #[.val (.int p0), .val (.int p1), .val (.int (1 : Int32)), .val (.int v24), .val (.int (95 : Int32)), .val (.int (own_isS (95 : Int32))), .val (.int (1 : Int32))] [])) (fun _ kk => XS.ifNo X109.here hx rfl (hb hby at_104) rfl (XT.i0_eq_f (by decide : ¬ (1 : Int32) = (0 : Int32))) kk) ?_
    refine own_st (G := T107.setTop (mkF m 109 #[.val (.int p0), .val (.int p1), .val (.int (1 : Int32)), .val (.int v24), .val (.int (95 : Int32)), .val (.int (own_isS (95 : Int32))), .val (.int (1 : Int32))] [(.int (own_isS (95 : Int32)))])) (fun _ kk => XS.iload X109.here hx rfl (hb hby at_107) rfl kk) ?_
    have hk112 : ¬ ((own_isS (95 : Int32)) = (0 : Int32)) := by decide +kernel
    refine own_st (G := T107.setTop (mkF m 112 #[.val (.int p0), .val (.int p1), .val (.int (1 : Int32)), .val (.int v24), .val (.int (95 : Int32)), .val (.int (own_isS (95 : Int32))), .val (.int (1 : Int32))] [])) (fun _ kk => XS.ifNo X109.here hx rfl (hb hby at_109) rfl (XT.i0_eq_f hk112) kk) ?_
    refine own_st (G := T107.setTop (mkF m 114 #[.val (.int p0), .val (.int p1), .val (.int (1 : Int32)), .val (.int v24), .val (.int (95 : Int32)), .val (.int (own_isS (95 : Int32))), .val (.int (1 : Int32))] [(.int (1 : Int32))])) (fun _ kk => XS.iload X109.here hx rfl (hb hby at_112) rfl kk) ?_
    refine own_st (G := T107.setTop (mkF m 117 #[.val (.int p0), .val (.int p1), .val (.int (1 : Int32)), .val (.int v24), .val (.int (95 : Int32)), .val (.int (own_isS (95 : Int32))), .val (.int (1 : Int32))] [])) (fun _ kk => XS.ifNo X109.here hx rfl (hb hby at_114) rfl (XT.i0_eq_f (by decide : ¬ (1 : Int32) = (0 : Int32))) kk) ?_
    refine own_st (G := T107.setTop (mkF m 118 #[.val (.int p0), .val (.int p1), .val (.int (1 : Int32)), .val (.int v24), .val (.int (95 : Int32)), .val (.int (own_isS (95 : Int32))), .val (.int (1 : Int32))] [(.int (1 : Int32))])) (fun _ kk => XT.iconstV X109.here hx rfl (1 : Int32) (hb hby at_117) (by decide) kk) ?_
    refine own_st (G := T107.setTop (mkF m 122 #[.val (.int p0), .val (.int p1), .val (.int (1 : Int32)), .val (.int v24), .val (.int (95 : Int32)), .val (.int (own_isS (95 : Int32))), .val (.int (1 : Int32))] [(.int (1 : Int32))])) (fun _ kk => XS.goto X109.here hx rfl (pc0 := 118) (pc' := 122) rfl (hb hby at_118) (by decide) (by decide) kk) ?_
    refine own_retB X109 hx hret (by simp) hlk (hb hby at_122) (by decide) (by decide) ?_
    exact ⟨rfl, N106⟩
set_option maxRecDepth 65536 in
set_option maxHeartbeats 40000000 in
theorem comes_1 {Post : Tables → Env → Array Value → State → Outcome → State → Prop} (hpost : ∀ tb e args s v u, (limb_1_1.after args s (.returned v) u = true ∧ limb_1_2.after args s (.returned v) u = true ∧ True) → FrameEnd s (.returned v) u (Jvm.fieldLocs frame_1_writes args s ++ Jvm.arrayLocs frame_1_arrays args s ++ Jvm.staticLocs frame_1_statics s) 0 0 → Post tb e args s (.returned v) u) :
    ArmFor flags0 classFile x code maxLocals ret World_1 tables_1 room_1 Calls_1 rest_1 Pre_1 Post := by
  intro l hfl _ _ p e ha hc hk s m args below hf hA hF happ hP
  obtain ⟨hcalls, hrest, hpre⟩ := hP
  obtain ⟨-, -, -, hnamed, -, -, -, hat⟩ := (Spec.applies_iff hf).mp happ
  obtain ⟨hg, hn⟩ := and_e (Cond.before_iff.mp (show (Jvm.Cond.and given_1 narrow_1).before args s = true from hpre))
  obtain ⟨hct, hk0⟩ := and_e hg
  obtain ⟨ha0, hk1⟩ := and_e hk0
  have ha1 := hk1
  obtain ⟨w0, w1, rfl⟩ : ∃ w0 w1 : Value, args = #[w0, w1] := by
    have hs : args.size = 2 := by simpa [Cond.value, given_1] using hct
    obtain ⟨L⟩ := args
    match L, hs with
    | [w0, w1], _ => exact ⟨w0, w1, rfl⟩
  have hw := fun d (hd : d ∈ tables_1) => atoms_spec (ws := Jvm.Cond.code x code maxLocals ret :: tables_1) hat d (List.mem_cons_of_mem _ hd)
  obtain ⟨i0, e0⟩ := is_v ha0
  obtain rfl : w0 = (.int i0) := Option.some.inj e0
  obtain ⟨i1, e1⟩ := is_v ha1
  obtain rfl : w1 = (.int i1) := Option.some.inj e1
  obtain ⟨n, o, h1, h2, h3, _, L, rfl, ⟨rfl, N⟩, hq⟩ := own_law l s _ hw tables_1 i0 i1 s.heap s.heap.size p e ha hc hk s m _ below hf ((Spec.applies_iff_loose hf).mp happ).1 ⟨rfl, State.Warmed39.refl s, rfl⟩ trivial
  refine ⟨n, _, h1, h2, h3, hpost _ _ _ _ _ _ ⟨Cond.after_iff.mpr rfl, Cond.after_iff.mpr (eq_i res_at (Term.int_eval (1)) rfl), trivial⟩ ⟨hq.1, hq.2.1, (hq.2.2.sift fun y hy => Or.inr (N y hy)).mono (by decide) (by decide)⟩⟩
theorem main_1_1 : Claimed_1_1 := comes_1 fun _ _ _ _ _ _ h hF => ⟨h.1, hF⟩
theorem main_1_2 : Claimed_1_2 := comes_1 fun _ _ _ _ _ _ h hF => ⟨h.2.1, hF⟩
end Jvm.Pilot.@@N@@
namespace Jvm.Pilot.@@N@@
open Jvm Jvm.ClassFile Sem Op Lib Jvm.Free Jvm.Stand Jvm.Pilot.@@N@@.Jvm.D
/-! MADE BY PROGRAM (witnessworld.py) out of the Statement's table words and the real class files: 9 classes; the members and pool entries that the words name. The judged class is class 1, her method 2. -/
namespace start1
open Jvm.ClassFile
def u (s : String) : CpInfo := .utf8 (stringToUtf16 s)
/-- a pool by its gaps: so many unusable entries, then the entry; so many at the end -/
def gap : Nat → List CpInfo → List CpInfo
  | 0, r => r
  | n + 1, r => .unusable :: gap n r
def poolList (es : List (Nat × CpInfo)) (last : Nat) : List CpInfo := es.foldr (fun e r => gap e.1 (e.2 :: r)) (gap last [])
def pool (es : List (Nat × CpInfo)) (last : Nat) : Array CpInfo := ⟨poolList es last⟩
def fileOf (pool : Array CpInfo) (this : Nat) (attrs : Array Attribute := #[]) (ms : Array MethodInfo := #[]) (fl : Nat := 33) (sup : Nat := 0) (ifs : Array Nat := #[]) (fds : Array FieldInfo := #[]) : ClassFile where
  minorVersion := 0
  majorVersion := 65
  constantPool := pool
  accessFlags := fl
  thisClass := this
  superClass := sup
  interfaces := ifs
  fields := fds
  methods := ms
  attributes := attrs
def plain (name : String) (sup : Option ClassId) : Class where
  name := name
  kind := .ordinary
  loader := none
  accessFlags := 33
  super := sup
  interfaces := #[]
  cf := none
  fields := #[]
  methods := #[]
  instanceTypes := #[]
  staticTypes := #[]
  resolved := #[]
  callSites := []
  init := .initialized
  statics := none
  mirror := none

def pool0 : Array CpInfo := pool [(5, u "<init>"), (0, u "()V"), (1, .class_ 10), (1, u "java/lang/Object")] 113

def k0m0 : Method := { name := "<init>", desc := "()V", sig := { parameters := [], returnType := none }, accessFlags := 1, code := none }
/-- java/lang/Object -/
def k0 : Class := { plain "java/lang/Object" none with
  accessFlags := 33
  interfaces := #[]
  cf := some (fileOf pool0 8 #[] #[{ accessFlags := 1, nameIndex := 5, descriptorIndex := 6, attributes := #[] }] 33 0 #[] #[])
  fields := #[]
  methods := #[k0m0]
  instanceTypes := #[]
  staticTypes := #[]
  resolved := Array.replicate 124 none
  statics := none }

def pool1 : Array CpInfo := pool [(2, .class_ 4), (1, u "java/lang/Object"), (0, u "<init>"), (0, u "()V"), (0, .long 97), (1, .long 95), (1, .long 26), (1, .methodref 14 15), (0, .class_ 16), (0, .nameAndType 17 18), (0, u "com/example/libbuchi/libbuchi/automata/TextCursor"), (0, u "isIdentifierStart"), (0, u "(I)Z"), (0, .methodref 20 21), (0, .class_ 22), (0, .nameAndType 23 18), (0, u "com/example/libbuchi/libbuchi/automata/TextCursorIsIdentifierStartPinLaw"), (0, u "ref"), (0, .integer 2147483647), (3, u "law"), (0, u "(II)Z")] 2

def k1m0 : Method := { name := "<init>", desc := "()V", sig := { parameters := [], returnType := none }, accessFlags := 1, code := none }
def k1c1 : Code := { maxStack := 4, maxLocals := 5, code := method_2_code, exceptionTable := #[], attributes := #[] }
def k1m1 : Method := { name := "ref", desc := "(I)Z", sig := { parameters := [.int], returnType := some .boolean }, accessFlags := 10, code := some k1c1 }
def k1c2 : Code := { maxStack := 2, maxLocals := 7, code := code, exceptionTable := #[], attributes := #[] }
def k1m2 : Method := { name := "law", desc := "(II)Z", sig := { parameters := [.int, .int], returnType := some .boolean }, accessFlags := 9, code := some k1c2 }
/-- com/example/libbuchi/libbuchi/automata/TextCursorIsIdentifierStartPinLaw -/
def k1 : Class := { plain "com/example/libbuchi/libbuchi/automata/TextCursorIsIdentifierStartPinLaw" (some 0) with
  accessFlags := 49
  interfaces := #[]
  cf := some (fileOf pool1 20 #[] #[{ accessFlags := 1, nameIndex := 5, descriptorIndex := 6, attributes := #[] }, { accessFlags := 10, nameIndex := 23, descriptorIndex := 18, attributes := #[] }, { accessFlags := 9, nameIndex := 28, descriptorIndex := 29, attributes := #[] }] 49 2 #[] #[])
  fields := #[]
  methods := #[k1m0, k1m1, k1m2]
  instanceTypes := #[]
  staticTypes := #[]
  resolved := Array.replicate 32 none
  statics := none }

def pool2 : Array CpInfo := pool [(2, .class_ 4), (1, u "java/lang/Object"), (3, .class_ 10), (1, u "com/example/libbuchi/libbuchi/automata/TextCursor"), (0, u "line"), (0, u "I"), (2, u "column"), (10, u "text"), (0, u "Ljava/lang/String;"), (2, u "offset"), (44, u "(I)Z"), (20, u "isIdentifierStart"), (62, u "END_OF_TEXT")] 48

def k2c0 : Code := { maxStack := 2, maxLocals := 1, code := prog_39_method_12_code, exceptionTable := #[], attributes := #[] }
def k2m0 : Method := { name := "isIdentifierStart", desc := "(I)Z", sig := { parameters := [.int], returnType := some .boolean }, accessFlags := 9, code := some k2c0 }
/-- com/example/libbuchi/libbuchi/automata/TextCursor -/
def k2 : Class := { plain "com/example/libbuchi/libbuchi/automata/TextCursor" (some 0) with
  accessFlags := 33
  interfaces := #[]
  cf := some (fileOf pool2 8 #[] #[{ accessFlags := 9, nameIndex := 96, descriptorIndex := 75, attributes := #[] }] 33 2 #[] #[{ accessFlags := 25, nameIndex := 159, descriptorIndex := 27, attributes := #[] }, { accessFlags := 18, nameIndex := 26, descriptorIndex := 27, attributes := #[] }, { accessFlags := 2, nameIndex := 30, descriptorIndex := 12, attributes := #[] }, { accessFlags := 2, nameIndex := 11, descriptorIndex := 12, attributes := #[] }, { accessFlags := 2, nameIndex := 15, descriptorIndex := 12, attributes := #[] }])
  fields := #[{ name := "END_OF_TEXT", type := (.object "java/lang/String"), accessFlags := 25, slot := 0, constantValue := 0 }, { name := "text", type := (.object "java/lang/String"), accessFlags := 18, slot := 0, constantValue := 0 }, { name := "offset", type := .int, accessFlags := 2, slot := 1, constantValue := 0 }, { name := "line", type := .int, accessFlags := 2, slot := 2, constantValue := 0 }, { name := "column", type := .int, accessFlags := 2, slot := 3, constantValue := 0 }]
  methods := #[k2m0]
  instanceTypes := #[(.object "java/lang/String"), .int, .int, .int]
  staticTypes := #[(.object "java/lang/String")]
  resolved := Array.replicate 208 none
  statics := none }

def pool3 : Array CpInfo := pool [(1, u "java/lang/Cloneable"), (0, .class_ 1), (0, u "java/lang/Object"), (0, .class_ 3)] 3

/-- java/lang/Cloneable -/
def k3 : Class := { plain "java/lang/Cloneable" (some 0) with
  accessFlags := 1537
  interfaces := #[]
  cf := some (fileOf pool3 2 #[] #[] 1537 4 #[] #[])
  fields := #[]
  methods := #[]
  instanceTypes := #[]
  staticTypes := #[]
  resolved := Array.replicate 8 none
  statics := none }

def pool4 : Array CpInfo := pool [(1, u "java/io/Serializable"), (0, .class_ 1), (0, u "java/lang/Object"), (0, .class_ 3)] 3

/-- java/io/Serializable -/
def k4 : Class := { plain "java/io/Serializable" (some 0) with
  accessFlags := 1537
  interfaces := #[]
  cf := some (fileOf pool4 2 #[] #[] 1537 4 #[] #[])
  fields := #[]
  methods := #[]
  instanceTypes := #[]
  staticTypes := #[]
  resolved := Array.replicate 8 none
  statics := none }

/-- the primitive byte -/
def k5 : Class := { plain "byte" none with kind := .primitive 'B', accessFlags := 0x411 }
/-- [B -/
def k6 : Class := { plain "[B" (some 0) with kind := .array 5 .byte, interfaces := #[3, 4], accessFlags := 1041 }

/-- the primitive int -/
def k7 : Class := { plain "int" none with kind := .primitive 'I', accessFlags := 0x411 }
/-- [I -/
def k8 : Class := { plain "[I" (some 0) with kind := .array 7 .int, interfaces := #[3, 4], accessFlags := 1041 }

def heap : Heap := #[]
def classes : Array Class := #[k0, k1, k2, k3, k4, k5, k6, k7, k8]
def interned : List (Array UInt16 × Addr) := []
def slotsUsed : Nat := 0
def theMethod : MethodId := ⟨1, 2⟩
def args0 : Array Value := #[.int 5, .int 7]
def aboutOver (below : List Frame) : State where
  vm := { classes := classes, interned := interned.toArray }
  heap := heap
  slotsUsed := slotsUsed
  threads := #[{ frames := .invoking theMethod args0 :: below }]
def below0 : List Frame := [.native { method := ⟨0, 0⟩, args := #[] }]
def about1 : State := aboutOver below0
def p0 : Program := .bare "" "" ""
def e0 : Env := launch0.env 0 0 0
theorem w_frames : about1.frames = Frame.invoking theMethod args0 :: below0 := rfl
set_option maxRecDepth 65536 in
theorem w_args : argsFit about1.vm theMethod args0 = true := by decide +kernel
set_option maxRecDepth 65536 in
theorem w_heap : heapFits about1 = true := by decide +kernel
set_option maxRecDepth 65536 in
theorem w_runnable : about1.curStatus? = some .runnable := by decide +kernel
set_option maxRecDepth 65536 in
theorem w_alone : about1.alone = true := by decide +kernel
set_option maxRecDepth 65536 in
theorem w_named : about1.methodNamed? x = some theMethod := by decide +kernel
set_option maxRecDepth 65536 in
theorem w_hears : about1.hears theMethod below0 = true := by decide +kernel
set_option maxRecDepth 65536 in
theorem w_ripe : about1.ripe theMethod args0 below0 = true := by decide +kernel
theorem w_running : about1.status = .running := rfl
set_option maxRecDepth 65536 in
theorem w_room : about1.hasRoom e0.platform room_1 = true :=
  launch0.hasRoom_least _ room_1 (by decide +kernel) (by decide +kernel) (by decide +kernel) (by decide +kernel) (by decide +kernel) (by decide +kernel)
theorem allAtoms_all (ts : List Jvm.Cond) (a : Array Jvm.Value) (st : Jvm.State) : (allAtoms ts).before a st = ts.all (fun c => c.before a st) := by
  induction ts with
  | nil => rfl
  | cons c t ih =>
    show (Jvm.Cond.and c (allAtoms t)).before a st = _
    rw [Jvm.Cond.before_and, ih, List.all_cons]
def words1 : List Jvm.Cond := Jvm.Cond.code x code maxLocals ret :: tables_1
/-- a 'code' word, met by the world's own term for the bytes: nothing is compared byte by byte -/
theorem code_word {y : MethodName} {bytes : ByteArray} {mx : Nat} {rt : Option FieldType} {a : Array Value} {s : State} {m : MethodId} {meth : Method} {c : Code} (h1 : s.methodNamed? y = some m) (h2 : s.vm.method? m = some meth) (h3 : meth.code = some c) (h4 : c.code = bytes)
    (h5 : (c.maxLocals == mx && c.exceptionTable.isEmpty && decide (c.maxStack ≤ mostOperands) && decide (meth.sig.returnType = rt) && !meth.locks && decide (parseMethodDescriptor y.desc = some meth.sig)) = true) : (Jvm.Cond.code y bytes mx rt).before a s = true := by
  simp only [Bool.and_eq_true, beq_iff_eq, Bool.not_eq_true', decide_eq_true_eq] at h5
  obtain ⟨⟨⟨⟨⟨g1, g2⟩, g3⟩, g4⟩, g5⟩, g6⟩ := h5
  simp [Cond.before, Cond.holds, Cond.value, h1, h2, h3, h4, g1, g2, g3, g4, g5, g6]
def isCode : Jvm.Cond → Bool
  | .code _ _ _ _ => true
  | _ => false
theorem all_split {L : List Jvm.Cond} {P : Jvm.Cond → Bool} (h1 : L.all (fun c => isCode c || P c) = true) (h2 : ∀ c ∈ L.filter isCode, P c = true) : L.all P = true := by
  refine List.all_eq_true.mpr fun c hc => ?_
  have h := List.all_eq_true.mp h1 c hc
  rcases Bool.eq_false_or_eq_true (isCode c) with hi | hi
  · exact h2 c (List.mem_filter.mpr ⟨hc, hi⟩)
  · simpa [hi] using h
set_option maxRecDepth 65536 in
theorem w_c0 : (Jvm.Cond.code x code maxLocals ret).before args0 about1 = true := code_word (m := ⟨1, 2⟩) (meth := k1m2) (c := k1c2) (by decide +kernel) rfl rfl rfl (by decide +kernel)
set_option maxRecDepth 65536 in
theorem w_c1 : (Jvm.Cond.code ({ cls := "com/example/libbuchi/libbuchi/automata/TextCursor", name := "isIdentifierStart", desc := "(I)Z" } : Jvm.MethodName) prog_39_method_12_code (1 : Nat) (Option.some Jvm.ClassFile.FieldType.boolean)).before args0 about1 = true := code_word (m := ⟨2, 0⟩) (meth := k2m0) (c := k2c0) (by decide +kernel) rfl rfl rfl (by decide +kernel)
set_option maxRecDepth 65536 in
theorem w_c2 : (Jvm.Cond.code ({ cls := "com/example/libbuchi/libbuchi/automata/TextCursorIsIdentifierStartPinLaw", name := "ref", desc := "(I)Z" } : Jvm.MethodName) method_2_code (5 : Nat) (Option.some Jvm.ClassFile.FieldType.boolean)).before args0 about1 = true := code_word (m := ⟨1, 1⟩) (meth := k1m1) (c := k1c1) (by decide +kernel) rfl rfl rfl (by decide +kernel)
def codes1 : List Jvm.Cond := [Jvm.Cond.code x code maxLocals ret, Jvm.Cond.code ({ cls := "com/example/libbuchi/libbuchi/automata/TextCursor", name := "isIdentifierStart", desc := "(I)Z" } : Jvm.MethodName) prog_39_method_12_code (1 : Nat) (Option.some Jvm.ClassFile.FieldType.boolean), Jvm.Cond.code ({ cls := "com/example/libbuchi/libbuchi/automata/TextCursorIsIdentifierStartPinLaw", name := "ref", desc := "(I)Z" } : Jvm.MethodName) method_2_code (5 : Nat) (Option.some Jvm.ClassFile.FieldType.boolean)]
set_option maxRecDepth 65536 in
theorem codes_eq : words1.filter isCode = codes1 := rfl
theorem w_codes : ∀ c ∈ words1.filter isCode, c.before args0 about1 = true := by
  rw [codes_eq]
  intro c hc
  simp only [codes1, List.mem_cons, List.not_mem_nil, or_false] at hc
  rcases hc with rfl | rfl | rfl
  · exact w_c0
  · exact w_c1
  · exact w_c2
set_option maxRecDepth 65536 in
theorem w_t1 : words1.all (fun c => isCode c || c.before args0 about1) = true := by decide +kernel
theorem w_tables : (allAtoms (Jvm.Cond.code x code maxLocals ret :: tables_1)).before args0 about1 = true := by
  rw [allAtoms_all]
  show words1.all (fun c => c.before args0 about1) = true
  refine all_split ?_ w_codes
  rw [w_t1]
set_option maxRecDepth 65536 in
theorem w_case : (Jvm.Cond.and given_1 narrow_1).before args0 about1 = true := by decide +kernel
theorem w_applies : (headSpec (Jvm.Cond.code x code maxLocals ret :: tables_1) room_1).applies x e0.platform about1 = true :=
  (Spec.applies_iff w_frames).mpr ⟨w_running, w_runnable, w_alone, w_named, w_hears, w_ripe, w_room, w_tables⟩
theorem atStart : AtStart classFile x code maxLocals ret World_1 tables_1 room_1 Calls_1 rest_1 Pre_1 launch0 p0 e0 about1 theMethod args0 below0 :=
  ⟨lists_1, trivial, launch0.admits_env _ _ _, launch0.least_env, fairChoices_fair.cas, fairChoices_fair.clock, w_frames, w_args, w_heap, w_applies, trivial, trivial, w_case⟩
end start1
theorem witness_1 : WitnessClaimed_1 := ⟨start1.p0, start1.e0, start1.about1, start1.theMethod, start1.args0, start1.below0, start1.atStart⟩
end Jvm.Pilot.@@N@@
