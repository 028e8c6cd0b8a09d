import JvmDerived
import JvmDerived.Pilot.@@N@@Statement
import JvmDerived.Pilot.@@N@@Code
set_option linter.unusedVariables false
set_option linter.unusedSimpArgs false
@@BLOCK:NumsL.lean.txt@@
namespace Jvm.RoadKit
open Sem ClassFile Op Lib Jvm.Stand Jvm.Free Jvm.LawKit
section Own
variable {p : Program} {l : Launch} {e : Env} {R : Room} {s : State} {m : MethodId} {args : Array Value} {below : List Frame} {meth : Method} {c : Code} {T : State} {locs : List Loc} {cells slots : Nat} {Z : State} {a0 : Array Value} {h : Heap}
/-- from the state F the walked method comes to its end, and Q holds there -/
def own_Out (p : Program) (e : Env) (below : List Frame) (Q : Outcome → State → Prop) (F : State) : Prop :=
  ∃ s₂ o, Steps p.tables e below F s₂ ∧ s₂.status = .running ∧ Ended s₂ below o ∧ Q o s₂
/-- what a contract says of the end, out of a statement on the value, the heap and the written places -/
def own_Q (Q : Option Value → Heap → List Loc → Prop) (s : State) (k n : Nat) : Outcome → State → Prop :=
  fun o U => ∃ v L, o = .returned v ∧ Q v U.heap L ∧ FrameEnd s o U L k n
theorem own_st {Q : Outcome → State → Prop} {F G : State} (h : ∀ t, Steps p.tables e below G t → Steps p.tables e below F t) (k : own_Out p e below Q G) : own_Out p e below Q F := by
  obtain ⟨s2, o, h1, h2⟩ := k
  exact ⟨s2, o, h _ h1, h2⟩
theorem own_tr {Q : Outcome → State → Prop} {F G : State} (h : Steps p.tables e below F G) (k : own_Out p e below Q G) : own_Out p e below Q F :=
  own_st (fun _ q => h.trans q) k
theorem own_retB (X : Stand p l e R s m args below meth c T locs cells slots) (hx : p.tables.exec = Jvm.exec) {Q : Option Value → Heap → List Loc → Prop} {k n : Nat} {pc : Nat} {Ls : Array Slot} {z : Int32} {t : FieldType} {rest : List Value}
    (hret : meth.sig.returnType = some t) (ht : t = .boolean ∨ t = .byte ∨ t = .char ∨ t = .short) (hlk : meth.locks = false) (hd : decode c.code pc = .ok (.ireturn, 1)) (hc : cells ≤ k) (hs : slots ≤ n)
    (hq : Q (some (.int (nar t z))) T.heap locs) : own_Out p e below (own_Q Q s k n) (T.setTop (mkF m pc Ls (.int z :: rest))) := by
  obtain ⟨fs, hr, hrun, hended, hW, hsame⟩ := X.leave (v := some (.int (nar t z))) (fun h => by rw [hret] at h; cases h) hlk
  exact ⟨_, _, retN X hx (t := t) hret ht hd hr, hrun, hended, _, _, rfl, hq, ⟨_, rfl⟩, hW, hsame.mono hc hs⟩
theorem own_retV (X : Stand p l e R s m args below meth c T locs cells slots) (hx : p.tables.exec = Jvm.exec) {Q : Option Value → Heap → List Loc → Prop} {k n : Nat} {pc : Nat} {Ls : Array Slot} {w : Value} {t : FieldType} {i : Instr} {rest : List Value}
    (hret : meth.sig.returnType = some t) (hn : narrow t w = w)
    (hi : (i = .ireturn ∧ (t = .int ∨ t = .boolean ∨ t = .byte ∨ t = .char ∨ t = .short) ∧ ∃ z, w = .int z) ∨ (i = .lreturn ∧ t = .long ∧ ∃ z, w = .long z) ∨ (i = .dreturn ∧ t = .double ∧ ∃ z, w = .double z) ∨ (i = .freturn ∧ t = .float ∧ ∃ z, w = .float z) ∨ (i = .areturn ∧ t.isReference = true ∧ w.isRef = true))
    (hlk : meth.locks = false) (hd : decode c.code pc = .ok (i, 1)) (hc : cells ≤ k) (hs : slots ≤ n)
    (hq : Q (some w) T.heap locs) : own_Out p e below (own_Q Q s k n) (T.setTop (mkF m pc Ls (w :: rest))) := by
  obtain ⟨fs, hr, hrun, hended, hW, hsame⟩ := X.leave (v := some w) (fun h => by rw [hret] at h; cases h) hlk
  exact ⟨_, _, retOut X hx hret hn hi hd hr, hrun, hended, _, _, rfl, hq, ⟨_, rfl⟩, hW, hsame.mono hc hs⟩
theorem own_retI (X : Stand p l e R s m args below meth c T locs cells slots) (hx : p.tables.exec = Jvm.exec) {Q : Option Value → Heap → List Loc → Prop} {k n : Nat} {pc : Nat} {Ls : Array Slot} {z : Int32} {rest : List Value}
    (hret : meth.sig.returnType = some .int) (hlk : meth.locks = false) (hd : decode c.code pc = .ok (.ireturn, 1)) (hc : cells ≤ k) (hs : slots ≤ n)
    (hq : Q (some (.int z)) T.heap locs) : own_Out p e below (own_Q Q s k n) (T.setTop (mkF m pc Ls (.int z :: rest))) :=
  own_retV X hx hret rfl (Or.inl ⟨rfl, Or.inl rfl, _, rfl⟩) hlk hd hc hs hq
theorem own_retJ (X : Stand p l e R s m args below meth c T locs cells slots) (hx : p.tables.exec = Jvm.exec) {Q : Option Value → Heap → List Loc → Prop} {k n : Nat} {pc : Nat} {Ls : Array Slot} {z : Int64} {rest : List Value}
    (hret : meth.sig.returnType = some .long) (hlk : meth.locks = false) (hd : decode c.code pc = .ok (.lreturn, 1)) (hc : cells ≤ k) (hs : slots ≤ n)
    (hq : Q (some (.long z)) T.heap locs) : own_Out p e below (own_Q Q s k n) (T.setTop (mkF m pc Ls (.long z :: rest))) :=
  own_retV X hx hret rfl (Or.inr (Or.inl ⟨rfl, rfl, _, rfl⟩)) hlk hd hc hs hq
theorem own_retA (X : Stand p l e R s m args below meth c T locs cells slots) (hx : p.tables.exec = Jvm.exec) {Q : Option Value → Heap → List Loc → Prop} {k n : Nat} {pc : Nat} {Ls : Array Slot} {w : Value} {t : FieldType} {rest : List Value}
    (hret : meth.sig.returnType = some t) (ht : t.isReference = true) (hw : w.isRef = true) (hlk : meth.locks = false) (hd : decode c.code pc = .ok (.areturn, 1)) (hc : cells ≤ k) (hs : slots ≤ n)
    (hq : Q (some w) T.heap locs) : own_Out p e below (own_Q Q s k n) (T.setTop (mkF m pc Ls (w :: rest))) :=
  own_retV X hx hret (by cases t <;> first | (cases ht; done) | rfl | (cases w <;> rfl)) (Or.inr (Or.inr (Or.inr (Or.inr ⟨rfl, ht, hw⟩)))) hlk hd hc hs hq
theorem own_ret0 (X : Stand p l e R s m args below meth c T locs cells slots) (hx : p.tables.exec = Jvm.exec) {Q : Option Value → Heap → List Loc → Prop} {k n : Nat} {pc : Nat} {Ls : Array Slot}
    (hret : meth.sig.returnType = none) (hlk : meth.locks = false) (hd : decode c.code pc = .ok (.return_, 1)) (hc : cells ≤ k) (hs : slots ≤ n)
    (hq : Q none T.heap locs) : own_Out p e below (own_Q Q s k n) (T.setTop (mkF m pc Ls [])) := by
  obtain ⟨fs, hr, hrun, hended, hW, hsame⟩ := X.leave (v := none) (fun _ => rfl) hlk
  exact ⟨_, _, X.returnOut hx hret hd hr, hrun, hended, _, _, rfl, hq, ⟨_, rfl⟩, hW, hsame.mono hc hs⟩
/-- the head of every body's walk -/
theorem own_body {x : MethodName} {code : ByteArray} {maxL : Nat} {ret : Option FieldType} {ws : List Jvm.Cond} {rm : Room} {as' : Array Value} {Q : Option Value → Heap → List Loc → Prop} (hpn : plainFor x = true) (Lf : Array Slot)
    (hent : ∀ m, entryFrame m as' maxL = mkF m 0 Lf [])
    (body : ∀ p e s m below meth c T, Stand p l e rm s m as' below meth c T [] 0 0 → p.tables.exec = Jvm.exec → c.code = code → c.maxLocals = maxL → meth.sig.returnType = ret → meth.locks = false →
      s.vm.findClass x.cls = some m.cls → meth.name = x.name → Z.Warmed39 s.vm → T.heap = h → own_Out p e below (own_Q Q s rm.cells rm.slots) (T.setTop (mkF m 0 Lf []))) :
    MetFree l x (head1 (Jvm.Cond.code x code maxL ret :: ws) rm) (fun a U => a = as' ∧ Z.Warmed39 U.vm ∧ U.heap = h) (fun _ _ _ _ _ => True)
      (fun _ U o U' => ∃ v L, o = .returned v ∧ Q v U'.heap L ∧ FrameEnd U o U' L rm.cells rm.slots) := by
  refine MetFree.of_bodySF hpn hisR ?_
  intro p e s m args below meth c s₁ Bd hml0 hP hK
  obtain ⟨rfl, hZ, hh⟩ := hP
  have e0 : s₁.heap = h := by rw [← hh, Bd.state]; rfl
  obtain ⟨s2, o, h1, h2⟩ := body p e s m below meth c s₁ (Stand.of_body Bd) Bd.exec Bd.bytes hml0 Bd.returns (BodyLoose.notSynchronized Bd) (findClass_of_methodNamed Bd.named) (name_of_methodNamed Bd.named Bd.method).1 hZ e0
  exact ⟨s2, o, castTop (hent m) h1, h2⟩
/-- a static call by the callee's own contract -/
theorem own_callS (X : Stand p l e R s m args below meth c T locs cells slots) (hx : p.tables.exec = Jvm.exec) (hZ : Z.Warmed39 s.vm) {own : String} {index : Nat} {y : MethodName} {bytes : ByteArray} {maxL : Nat} {ret : Option FieldType} {rm : Room} {as' : List Value} {Q : Option Value → Heap → List Loc → Prop} {Qf : Outcome → State → Prop}
    (hown : s.vm.findClass own = some m.cls) (w1 : (Jvm.Cond.methodLink own index y).before a0 Z = true) (w2 : (Jvm.Cond.static y).before a0 Z = true) (w3 : (Jvm.Cond.initialized y.cls).before a0 Z = true) (w4 : (Jvm.Cond.code y bytes maxL ret).before a0 Z = true)
    (hy : y.cls ≠ "java/lang/invoke/MethodHandle" ∧ y.cls ≠ "java/lang/invoke/VarHandle")
    (hM : MetFree l y (head1 [Jvm.Cond.code y bytes maxL ret] rm) (fun a U => a = as'.toArray ∧ Z.Warmed39 U.vm ∧ U.heap = h) (fun _ _ _ _ _ => True) (fun _ U o U' => ∃ v L, o = .returned v ∧ Q v U'.heap L ∧ FrameEnd U o U' L rm.cells rm.slots))
    (W : Nat) (hf : rm.frames + 1 ≤ R.frames) (hl : W + (maxL + 11) + rm.locals ≤ R.locals) (hc : cells + rm.cells ≤ R.cells) (hs : slots + rm.slots ≤ R.slots)
    {pc : Nat} {Ls : Array Slot} {stk rest : List Value} (hsize : Ls.size = c.maxLocals) (hlen : ∀ sig, parseMethodDescriptor y.desc = some sig → as'.length = sig.parameters.length) (hstack : stk = as'.reverse ++ rest) (hW : (rest.map fun v => v.category).sum ≤ W) (hd : decode c.code pc = .ok (.invokestatic index, 3)) (eT : T.heap = h)
    (k : ∀ T' L v, Stand p l e R s m args below meth c T' (locs ++ L) (cells + rm.cells) (slots + rm.slots) → Q v T'.heap L → own_Out p e below Qf (T'.setTop (mkF m (pc + 3) Ls (v.toList ++ rest)))) :
    own_Out p e below Qf (T.setTop (mkF m pc Ls stk)) := by
  obtain ⟨v, _, ⟨T', L', k', n'⟩, -, X', ⟨Lc, hQ, hl', hy', hz'⟩, st⟩ := Jvm.LawKit.callS X hx (y := y) hown (mvT hZ w1) (mvT hZ w2) (mvT hZ w3) (mvT hZ w4) hy (backOf (W := W) hM hZ w4 w3 hf hl) (g := mkF m pc Ls stk) rfl hsize (argsL := as') (rest := rest) hlen hstack (by show 2 * 0 + _ ≤ _; omega) hd (fun _ _ => ⟨rfl, eT, hc, hs⟩)
  dsimp only [Pt.U, Pt.locs, Pt.cells, Pt.slots] at X' hl' hy' hz' st hQ
  subst hl' hy' hz'
  exact own_st st (k _ _ _ X' hQ)
/-- an instance method by its own contract -/
theorem own_callV (X : Stand p l e R s m args below meth c T locs cells slots) (hx : p.tables.exec = Jvm.exec) (hZ : Z.Warmed39 s.vm) {own C : String} {index : Nat} {y : MethodName} {bytes : ByteArray} {maxL : Nat} {ret : Option FieldType} {rm : Room} {b : Addr} {as' : List Value} {Q : Option Value → Heap → List Loc → Prop} {Qf : Outcome → State → Prop}
    (hown : s.vm.findClass own = some m.cls) (w1 : (Jvm.Cond.methodLink own index y).before a0 Z = true) (w2 : (Jvm.Cond.declares y).before a0 Z = true) (w5 : (Jvm.Cond.selects C y y).before a0 Z = true) (w6 : (Jvm.Cond.instanceMethod y).before a0 Z = true) (w4 : (Jvm.Cond.code y bytes maxL ret).before a0 Z = true) (w3 : (Jvm.Cond.initialized y.cls).before a0 Z = true)
    (hy : y.cls ≠ "java/lang/invoke/MethodHandle" ∧ y.cls ≠ "java/lang/invoke/VarHandle")
    (hM : MetFree l y (head1 [Jvm.Cond.code y bytes maxL ret] rm) (fun a U => a = (.ref b :: as').toArray ∧ Z.Warmed39 U.vm ∧ U.heap = h) (fun _ _ _ _ _ => True) (fun _ U o U' => ∃ v L, o = .returned v ∧ Q v U'.heap L ∧ FrameEnd U o U' L rm.cells rm.slots))
    (E : Exa Z h b C)
    (W : Nat) (hf : rm.frames + 1 ≤ R.frames) (hl : W + (maxL + 11) + rm.locals ≤ R.locals) (hc : cells + rm.cells ≤ R.cells) (hs : slots + rm.slots ≤ R.slots)
    {pc : Nat} {Ls : Array Slot} {stk rest : List Value} (hsize : Ls.size = c.maxLocals) (hlen : ∀ sig, parseMethodDescriptor y.desc = some sig → as'.length = sig.parameters.length) (hstack : stk = as'.reverse ++ .ref b :: rest) (hW : (rest.map fun v => v.category).sum ≤ W) (hd : decode c.code pc = .ok (.invokevirtual index, 3)) (eT : T.heap = h)
    (k : ∀ T' L v, Stand p l e R s m args below meth c T' (locs ++ L) (cells + rm.cells) (slots + rm.slots) → Q v T'.heap L → own_Out p e below Qf (T'.setTop (mkF m (pc + 3) Ls (v.toList ++ rest)))) :
    own_Out p e below Qf (T.setTop (mkF m pc Ls stk)) := by
  obtain ⟨cq, kq, qa, qb, qc⟩ := isOf hZ eT E
  obtain ⟨v, _, ⟨T', L', k', n'⟩, -, X', ⟨Lc, hQ, hl', hy', hz'⟩, st⟩ := X.virtualBack hx (y := y) (z := y) hown (mvT hZ w1) (mvT hZ w2) (notFace_of_selects (args := #[]) (mvT hZ w5)) (mvT hZ w5) (mvT hZ w6) hy (backOf (W := W) hM hZ w4 w3 hf hl) qa qc (g := mkF m pc Ls stk) rfl hsize (Steps.refl _) (argsL := as') (rest := rest) hlen hstack (by show 2 * 0 + _ ≤ _; omega) hd (fun _ _ => ⟨rfl, eT, hc, hs⟩)
  dsimp only [Pt.U, Pt.locs, Pt.cells, Pt.slots] at X' hl' hy' hz' st hQ
  subst hl' hy' hz'
  exact own_tr st (k _ _ _ X' hQ)
/-- a constructor by its own contract -/
theorem own_callI (X : Stand p l e R s m args below meth c T locs cells slots) (hx : p.tables.exec = Jvm.exec) (hZ : Z.Warmed39 s.vm) {own : String} {index : Nat} {y : MethodName} {bytes : ByteArray} {maxL : Nat} {rm : Room} {b : Addr} {as' : List Value} {Q : Option Value → Heap → List Loc → Prop} {Qf : Outcome → State → Prop} (hy1 : y.name = "<init>")
    (hown : s.vm.findClass own = some m.cls) (w1 : (Jvm.Cond.methodLink own index y).before a0 Z = true) (w6 : (Jvm.Cond.instanceMethod y).before a0 Z = true) (w4 : (Jvm.Cond.code y bytes maxL none).before a0 Z = true) (w3 : (Jvm.Cond.initialized y.cls).before a0 Z = true)
    (hy : y.cls ≠ "java/lang/invoke/MethodHandle" ∧ y.cls ≠ "java/lang/invoke/VarHandle")
    (hM : MetFree l y (head1 [Jvm.Cond.code y bytes maxL none] rm) (fun a U => a = (.ref b :: as').toArray ∧ Z.Warmed39 U.vm ∧ U.heap = h) (fun _ _ _ _ _ => True) (fun _ U o U' => ∃ v L, o = .returned v ∧ Q v U'.heap L ∧ FrameEnd U o U' L rm.cells rm.slots))
    (W : Nat) (hf : rm.frames + 1 ≤ R.frames) (hl : W + (maxL + 11) + rm.locals ≤ R.locals) (hc : cells + rm.cells ≤ R.cells) (hs : slots + rm.slots ≤ R.slots)
    {pc : Nat} {Ls : Array Slot} {stk rest : List Value} (hsize : Ls.size = c.maxLocals) (hlen : ∀ sig, parseMethodDescriptor y.desc = some sig → as'.length = sig.parameters.length) (hstack : stk = as'.reverse ++ .ref b :: rest) (hW : (rest.map fun v => v.category).sum ≤ W) (hd : decode c.code pc = .ok (.invokespecial index, 3)) (eT : T.heap = h)
    (k : ∀ T' L v, Stand p l e R s m args below meth c T' (locs ++ L) (cells + rm.cells) (slots + rm.slots) → Q v T'.heap L → own_Out p e below Qf (T'.setTop (mkF m (pc + 3) Ls (v.toList ++ rest)))) :
    own_Out p e below Qf (T.setTop (mkF m pc Ls stk)) := by
  obtain ⟨v, _, ⟨T', L', k', n'⟩, -, X', ⟨Lc, hQ, hl', hy', hz'⟩, st⟩ := X.specialBack hx (y := y) hy1 hown (mvT hZ w1) (mvT hZ w6) (mvT hZ w4) hy (backOf (W := W) hM hZ w4 w3 hf hl) (g := mkF m pc Ls stk) rfl hsize (Steps.refl _) (a := b) (argsL := as') (rest := rest) hlen hstack (by show 2 * 0 + _ ≤ _; omega) hd (fun _ _ => ⟨rfl, eT, hc, hs⟩)
  dsimp only [Pt.U, Pt.locs, Pt.cells, Pt.slots] at X' hl' hy' hz' st hQ
  subst hl' hy' hz'
  exact own_tr st (k _ _ _ X' hQ)
theorem own_fits {C : String} {v : Value} (h : v.isRef = true) : fits (.object C) v = true := by cases v <;> first | rfl | cases h
theorem own_narO {C : String} {v : Value} (h : v.isRef = true) : narrow (.object C) v = v := by cases v <;> first | rfl | cases h
theorem own_nf {y y' : MethodName} (hc : y'.cls = y.cls) (h : NotFace s y) (hi : (Jvm.Cond.instanceMethod y).before a0 s = true) : NotFace s y' := fun r0 h0 => by
  obtain ⟨mk, methM, hnamed, -⟩ := Cond.instanceMethod_spec hi
  have h1 := findClass_of_methodNamed hnamed
  have h2 := findClass_of_methodNamed h0
  rw [hc, h1] at h2
  have h3 := Option.some.inj h2
  rw [← h3]
  exact h mk hnamed
/-- a private method (invokevirtual) by its own contract -/
theorem own_callP (X : Stand p l e R s m args below meth c T locs cells slots) (hx : p.tables.exec = Jvm.exec) (hZ : Z.Warmed39 s.vm) {own C : String} {index : Nat} {y : MethodName} {bytes : ByteArray} {maxL : Nat} {ret : Option FieldType} {rm : Room} {b : Addr} {as' : List Value} {Q : Option Value → Heap → List Loc → Prop} {Qf : Outcome → State → Prop}
    (hown : s.vm.findClass own = some m.cls) (w1 : (Jvm.Cond.methodLink own index y).before a0 Z = true) (w6 : (Jvm.Cond.instanceMethod y).before a0 Z = true) (w8 : (Jvm.Cond.privateMethod y).before a0 Z = true) (w4 : (Jvm.Cond.code y bytes maxL ret).before a0 Z = true) (w3 : (Jvm.Cond.initialized y.cls).before a0 Z = true) (hnf : NotFace s y)
    (hy : y.cls ≠ "java/lang/invoke/MethodHandle" ∧ y.cls ≠ "java/lang/invoke/VarHandle")
    (hM : MetFree l y (head1 [Jvm.Cond.code y bytes maxL ret] rm) (fun a U => a = (.ref b :: as').toArray ∧ Z.Warmed39 U.vm ∧ U.heap = h) (fun _ _ _ _ _ => True) (fun _ U o U' => ∃ v L, o = .returned v ∧ Q v U'.heap L ∧ FrameEnd U o U' L rm.cells rm.slots))
    (E : Exa Z h b C)
    (W : Nat) (hf : rm.frames + 1 ≤ R.frames) (hl : W + (maxL + 11) + rm.locals ≤ R.locals) (hc : cells + rm.cells ≤ R.cells) (hs : slots + rm.slots ≤ R.slots)
    {pc : Nat} {Ls : Array Slot} {stk rest : List Value} (hsize : Ls.size = c.maxLocals) (hlen : ∀ sig, parseMethodDescriptor y.desc = some sig → as'.length = sig.parameters.length) (hstack : stk = as'.reverse ++ .ref b :: rest) (hW : (rest.map fun v => v.category).sum ≤ W) (hd : decode c.code pc = .ok (.invokevirtual index, 3)) (eT : T.heap = h)
    (k : ∀ T' L v, Stand p l e R s m args below meth c T' (locs ++ L) (cells + rm.cells) (slots + rm.slots) → Q v T'.heap L → own_Out p e below Qf (T'.setTop (mkF m (pc + 3) Ls (v.toList ++ rest)))) :
    own_Out p e below Qf (T.setTop (mkF m pc Ls stk)) := by
  obtain ⟨mk, methM, hnamed, hmethM, hstM, habM⟩ := Cond.instanceMethod_spec (mvT (args := args) hZ w6)
  obtain ⟨methM', cM, hmethM', -, -, -, -, -, -, hsigM⟩ := Cond.code_spec hnamed (mvT (args := args) hZ w4)
  cases hmethM.symm.trans hmethM'
  obtain ⟨kP, hkP, hkPi⟩ := hnf mk hnamed
  obtain ⟨cell, hcell, hobj⟩ := E.cell
  have hselP : selectMethod e.platform s.vm cell.cls mk = .method mk := selectMethod_private hmethM (Cond.privateMethod_at (mvP hZ w8 (args := #[])) mk methM hnamed hmethM)
  obtain ⟨vm₁, X₁, hstep₁⟩ := X.invokevirtual hx hown (mvT hZ w1) hnamed hmethM hstM hkP hkPi hy (a := b) (cell := cell) (by rw [eT]; exact hcell) hobj hselP hmethM habM hkP hkPi (g := mkF m pc Ls stk) rfl (argsL := as') (rest := rest) (hlen _ hsigM) hstack hd
  obtain ⟨v, ⟨T', L', k', n'⟩, X', ⟨Lc, hQ, hl', hy', hz'⟩, st⟩ := backOf (W := W) hM hZ w4 w3 hf hl m meth c ⟨T.setVm vm₁, locs, cells, slots⟩ { mkF m pc Ls stk with stack := rest } (.invokevirtual index) mk (.ref b :: as').toArray X₁ rfl hsize hd (by show 2 * 0 + (rest.map fun v => v.category).sum ≤ W; omega) (X₁.named hnamed) ⟨rfl, eT, hc, hs⟩
  dsimp only [Pt.U, Pt.locs, Pt.cells, Pt.slots] at X' hl' hy' hz' st hQ
  subst hl' hy' hz'
  exact own_st (fun target q => hstep₁ _ fun acts => by rw [doInvoke_state]; exact st.trans q) (k _ _ _ X' hQ)
end Own
end Jvm.RoadKit
namespace Jvm.RoadKit
open Sem ClassFile Op Lib Jvm.Stand Jvm.Free Jvm.LawKit
section OwnA
variable {p : Program} {l : Launch} {e : Env} {R : Room} {s : State} {m : MethodId} {args : Array Value} {below : List Frame} {meth : Method} {c : Code} {T : State} {locs : List Loc} {cells slots : Nat} {Z : State} {a0 : Array Value} {h h' : Heap} {a b : Addr} {n : Nat} {f : Nat → Int64} {g0 : Nat → Int32} {Q : Outcome → State → Prop} {ws : List Addr} {sl : Nat} {v : Value}
/-- a long[] of length n with the components f -/
def own_AJ (Z : State) (h : Heap) (a : Addr) (n : Nat) (f : Nat → Int64) : Prop := ∃ c : Cell, Arr Z h a c .long ∧ c.slots.size = n ∧ n < 2147483648 ∧ ∀ i, i < n → c.slots[i]? = some (.long (f i))
def own_AI (Z : State) (h : Heap) (a : Addr) (n : Nat) (f : Nat → Int32) : Prop := ∃ c : Cell, Arr Z h a c .int ∧ c.slots.size = n ∧ n < 2147483648 ∧ ∀ i, i < n → c.slots[i]? = some (.int (f i))
theorem own_AJ_lt (F : own_AJ Z h a n f) : a < h.size := by obtain ⟨c, A, -⟩ := F; exact A.lt
theorem own_AI_lt (F : own_AI Z h a n g0) : a < h.size := by obtain ⟨c, A, -⟩ := F; exact A.lt
theorem own_AJ_ext (F : own_AJ Z h a n f) (E : Ext h h') : own_AJ Z h' a n f := by obtain ⟨c, A, r⟩ := F; exact ⟨c, A.ext E, r⟩
theorem own_AI_ext (F : own_AI Z h a n g0) (E : Ext h h') : own_AI Z h' a n g0 := by obtain ⟨c, A, r⟩ := F; exact ⟨c, A.ext E, r⟩
theorem own_AJ_other (F : own_AJ Z h b n f) (W : Wr h h' a sl v) (q : b ≠ a) : own_AJ Z h' b n f := by obtain ⟨c, A, r⟩ := F; exact ⟨c, A.other W q, r⟩
theorem own_AI_other (F : own_AI Z h b n g0) (W : Wr h h' a sl v) (q : b ≠ a) : own_AI Z h' b n g0 := by obtain ⟨c, A, r⟩ := F; exact ⟨c, A.other W q, r⟩
theorem own_AJ_keep (F : own_AJ Z h a n f) (K : Keep h h' ws) (q : a ∉ ws) : own_AJ Z h' a n f := by obtain ⟨c, A, r⟩ := F; exact ⟨c, ⟨K.2.1 a c A.1 q, A.2⟩, r⟩
theorem own_AI_keep (F : own_AI Z h a n g0) (K : Keep h h' ws) (q : a ∉ ws) : own_AI Z h' a n g0 := by obtain ⟨c, A, r⟩ := F; exact ⟨c, ⟨K.2.1 a c A.1 q, A.2⟩, r⟩
theorem own_AJ_congr {f' : Nat → Int64} (F : own_AJ Z h a n f) (q : ∀ i, i < n → f i = f' i) : own_AJ Z h a n f' := by obtain ⟨c, A, S, b, H⟩ := F; exact ⟨c, A, S, b, fun i hi => by rw [H i hi, q i hi]⟩
theorem own_nlt {z : Int32} (q : ¬ z < 0) : z.toNatClampNeg < 2147483648 := by
  have := z.toInt_lt
  simp only [Int32.toNatClampNeg]; omega
theorem own_AJ_new {k : ClassId} {z : Int32} (A : Arr Z h a (newA k .long z) .long) (q : ¬ z < 0) (hn : z.toNatClampNeg = n) : own_AJ Z h a n (fun _ => 0) :=
  ⟨_, A, (sz_new _ _ _).trans hn, hn ▸ own_nlt q, fun i hi => by subst hn; simp [newA, hi]; rfl⟩
theorem own_AI_new {k : ClassId} {z : Int32} (A : Arr Z h a (newA k .int z) .int) (q : ¬ z < 0) (hn : z.toNatClampNeg = n) : own_AI Z h a n (fun _ => 0) :=
  ⟨_, A, (sz_new _ _ _).trans hn, hn ▸ own_nlt q, fun i hi => by subst hn; simp [newA, hi]; rfl⟩
theorem own_AJ_set {x : Int64} {i : Nat} (F : own_AJ Z h a n f) (W : Wr h h' a i (.long x)) : own_AJ Z h' a n (fun k => if k = i then x else f k) := by
  obtain ⟨c, A, S, bn, H⟩ := F
  refine ⟨_, A.same W, by rw [sz_set]; exact S, bn, fun k hk => ?_⟩
  have hk' : k < c.slots.size := S ▸ hk
  by_cases q : k = i
  · subst q; simp [Cell.setSlot, hk']
  · have q' : i ≠ k := fun z => q z.symm
    simp [Cell.setSlot, q, Array.getElem?_setIfInBounds_ne q', H k hk]
theorem own_AI_set {x : Int32} {i : Nat} (F : own_AI Z h a n g0) (W : Wr h h' a i (.int x)) : own_AI Z h' a n (fun k => if k = i then x else g0 k) := by
  obtain ⟨c, A, S, bn, H⟩ := F
  refine ⟨_, A.same W, by rw [sz_set]; exact S, bn, fun k hk => ?_⟩
  have hk' : k < c.slots.size := S ▸ hk
  by_cases q : k = i
  · subst q; simp [Cell.setSlot, hk']
  · have q' : i ≠ k := fun z => q z.symm
    simp [Cell.setSlot, q, Array.getElem?_setIfInBounds_ne q', H k hk]
theorem own_ext_wr (E : Ext h0 h) (W : Wr h h' a sl v) (q : h0.size ≤ a) : Ext h0 h' := by
  obtain ⟨cell, h1, -, -, rfl⟩ := W
  refine ⟨by rw [Array.size_setIfInBounds]; exact E.1, fun x c hx => ?_⟩
  have hlt := (Array.getElem?_eq_some_iff.mp hx).1
  rw [Array.getElem?_setIfInBounds_ne (by omega)]; exact E.2 x c hx
theorem own_laload (X : Stand p l e R s m args below meth c T locs cells slots) (hx : p.tables.exec = Jvm.exec) (hZ : Z.Warmed39 s.vm) (eT : T.heap = h) (F : own_AJ Z h a n f) {j : Int32} {i : Nat} (hj : ¬ j < 0) (hji : j.toNatClampNeg = i) (hi : i < n)
    {pc : Nat} {Ls : Array Slot} {rest : List Value} (hd : decode c.code pc = .ok (.laload, 1)) (k : own_Out p e below Q (T.setTop (mkF m (pc + 1) Ls (.long (f i) :: rest)))) : own_Out p e below Q (T.setTop (mkF m pc Ls (.int j :: .ref a :: rest))) := by
  obtain ⟨cl, A, S, bn, H⟩ := F
  subst hji
  exact own_st (fun t q => X.laload hx (by rw [eT]; exact A.1) (State.isArrayOf_alike hZ.alike A.2.1) A.2.2 (by rw [S]; exact fun q => q.elim hj (Nat.not_le_of_lt hi)) (H _ hi) (g := mkF m pc Ls (.int j :: .ref a :: rest)) rfl rfl hd t q) k
theorem own_iaload (X : Stand p l e R s m args below meth c T locs cells slots) (hx : p.tables.exec = Jvm.exec) (hZ : Z.Warmed39 s.vm) (eT : T.heap = h) (F : own_AI Z h a n g0) {j : Int32} {i : Nat} (hj : ¬ j < 0) (hji : j.toNatClampNeg = i) (hi : i < n)
    {pc : Nat} {Ls : Array Slot} {rest : List Value} (hd : decode c.code pc = .ok (.iaload, 1)) (k : own_Out p e below Q (T.setTop (mkF m (pc + 1) Ls (.int (g0 i) :: rest)))) : own_Out p e below Q (T.setTop (mkF m pc Ls (.int j :: .ref a :: rest))) := by
  obtain ⟨cl, A, S, bn, H⟩ := F
  subst hji
  exact own_st (fun t q => X.iaload hx (by rw [eT]; exact A.1) (State.isArrayOf_alike hZ.alike A.2.1) A.2.2 (by rw [S]; exact fun q => q.elim hj (Nat.not_le_of_lt hi)) (H _ hi) (g := mkF m pc Ls (.int j :: .ref a :: rest)) rfl rfl hd t q) k
theorem own_lenJ (X : Stand p l e R s m args below meth c T locs cells slots) (hx : p.tables.exec = Jvm.exec) (hZ : Z.Warmed39 s.vm) (eT : T.heap = h) (F : own_AJ Z h a n f) {z : Int32} (hz : n.toInt32 = z)
    {pc : Nat} {Ls : Array Slot} {rest : List Value} (hd : decode c.code pc = .ok (.arraylength, 1)) (k : own_Out p e below Q (T.setTop (mkF m (pc + 1) Ls (.int z :: rest)))) : own_Out p e below Q (T.setTop (mkF m pc Ls (.ref a :: rest))) := by
  obtain ⟨cl, A, S, bn, H⟩ := F
  exact own_st (fun t q => X.arraylength hx (by rw [eT]; exact A.1) (State.isArrayOf_alike hZ.alike A.2.1) (g := mkF m pc Ls (.ref a :: rest)) rfl rfl hd t (by rw [S, hz]; exact q)) k
theorem own_lenI (X : Stand p l e R s m args below meth c T locs cells slots) (hx : p.tables.exec = Jvm.exec) (hZ : Z.Warmed39 s.vm) (eT : T.heap = h) (F : own_AI Z h a n g0) {z : Int32} (hz : n.toInt32 = z)
    {pc : Nat} {Ls : Array Slot} {rest : List Value} (hd : decode c.code pc = .ok (.arraylength, 1)) (k : own_Out p e below Q (T.setTop (mkF m (pc + 1) Ls (.int z :: rest)))) : own_Out p e below Q (T.setTop (mkF m pc Ls (.ref a :: rest))) := by
  obtain ⟨cl, A, S, bn, H⟩ := F
  exact own_st (fun t q => X.arraylength hx (by rw [eT]; exact A.1) (State.isArrayOf_alike hZ.alike A.2.1) (g := mkF m pc Ls (.ref a :: rest)) rfl rfl hd t (by rw [S, hz]; exact q)) k
theorem own_lastore (X : Stand p l e R s m args below meth c T locs cells slots) (hx : p.tables.exec = Jvm.exec) (hZ : Z.Warmed39 s.vm) (eT : T.heap = h) (F : own_AJ Z h a n f) {j : Int32} {x : Int64} {i : Nat} (hj : ¬ j < 0) (hji : j.toNatClampNeg = i) (hi : i < n)
    {pc : Nat} {Ls : Array Slot} {rest : List Value} (hd : decode c.code pc = .ok (.lastore, 1)) (k : ∀ T' h', Stand p l e R s m args below meth c T' (locs ++ [⟨a, i⟩]) cells slots → T'.heap = h' → Wr h h' a i (.long x) → own_AJ Z h' a n (fun k => if k = i then x else f k) → own_Out p e below Q (T'.setTop (mkF m (pc + 1) Ls rest))) : own_Out p e below Q (T.setTop (mkF m pc Ls (.long x :: .int j :: .ref a :: rest))) := by
  have F' := F
  obtain ⟨cl, A, S, bn, H⟩ := F
  subst hji
  obtain ⟨T', h', X', e', W, st⟩ := stJ X hx hZ eT A (j := j) (x := x) (by rw [S]; exact fun q => q.elim hj (Nat.not_le_of_lt hi)) (g := mkF m pc Ls (.long x :: .int j :: .ref a :: rest)) rfl rfl hd
  exact own_st st (k T' h' X' e' W (own_AJ_set F' W))
theorem own_iastore (X : Stand p l e R s m args below meth c T locs cells slots) (hx : p.tables.exec = Jvm.exec) (hZ : Z.Warmed39 s.vm) (eT : T.heap = h) (F : own_AI Z h a n g0) {j : Int32} {x : Int32} {i : Nat} (hj : ¬ j < 0) (hji : j.toNatClampNeg = i) (hi : i < n)
    {pc : Nat} {Ls : Array Slot} {rest : List Value} (hd : decode c.code pc = .ok (.iastore, 1)) (k : ∀ T' h', Stand p l e R s m args below meth c T' (locs ++ [⟨a, i⟩]) cells slots → T'.heap = h' → Wr h h' a i (.int x) → own_AI Z h' a n (fun k => if k = i then x else g0 k) → own_Out p e below Q (T'.setTop (mkF m (pc + 1) Ls rest))) : own_Out p e below Q (T.setTop (mkF m pc Ls (.int x :: .int j :: .ref a :: rest))) := by
  have F' := F
  obtain ⟨cl, A, S, bn, H⟩ := F
  subst hji
  obtain ⟨T', h', X', e', W, st⟩ := stI X hx hZ eT A (j := j) (x := x) (by rw [S]; exact fun q => q.elim hj (Nat.not_le_of_lt hi)) (g := mkF m pc Ls (.int x :: .int j :: .ref a :: rest)) rfl rfl hd
  exact own_st st (k T' h' X' e' W (own_AI_set F' W))
theorem own_AJ_arv (F : own_AJ Z h a n f) : ∃ k z, ¬ z < 0 ∧ z.toNatClampNeg = n ∧ Arv Z h a k .long z ((List.range n).map fun i => .long (f i)) (.long 0) := by
  obtain ⟨c, A, S, bn, H⟩ := F
  have e1 : (Int32.ofNat n).toInt = n := Int32.toInt_ofNat_of_lt (by omega)
  have e2 : (Int32.ofNat n).toNatClampNeg = n := by simp only [Int32.toNatClampNeg, e1]; omega
  have gd : ∀ i, i < n → ((List.range n).map fun i => Value.long (f i)).getD i (.long 0) = .long (f i) := fun i hi => by simp [List.getD_eq_getElem?_getD, hi]
  refine ⟨c.cls, Int32.ofNat n, ?_, e2, c, A, rfl, by rw [S, e2], ?_, fun i hi => ?_, fun i hi => ?_⟩
  · rw [Int32.lt_iff_toInt_lt, e1]; have : (0 : Int32).toInt = 0 := rfl; omega
  · rw [Int32.lt_iff_toInt_lt, e1]; have : (0 : Int32).toInt = 0 := rfl; omega
  · rw [gd i (S ▸ hi)]; exact H i (S ▸ hi)
  · rw [gd i (S ▸ hi)]; rfl
theorem own_arv_AJ {k : ClassId} {z : Int32} {vs : List Value} {dv : Value} (F : Arv Z h a k .long z vs dv) (hn : z.toNatClampNeg = n) (hv : ∀ i, i < n → vs.getD i dv = .long (f i)) : own_AJ Z h a n f := by
  obtain ⟨c, A, -, S, q, H, -⟩ := F
  exact ⟨c, A, S.trans hn, hn ▸ own_nlt q, fun i hi => by rw [H i (by rw [S, hn]; exact hi), hv i hi]⟩
theorem own_arraycopy (X : Stand p l e R s m args below meth c T locs cells slots) (hx : p.tables.exec = Jvm.exec) (hZ : Z.Warmed39 s.vm) {own : String} {index : Nat} (hown : s.vm.findClass own = some m.cls)
    (w1 : (Cond.methodLink own index Jvm.Stand.acN).before a0 Z = true) (w2 : (Cond.native Jvm.Stand.acN).before a0 Z = true) (w3 : (Cond.static Jvm.Stand.acN).before a0 Z = true) (w4 : (Cond.initialized "java/lang/System").before a0 Z = true) (eT : T.heap = h)
    {na nb : Nat} {fa fb : Nat → Int64} (A : own_AJ Z h a na fa) (B : own_AJ Z h b nb fb) {sp dp nn : Int32} {i1 i2 i3 : Nat} (h1 : ¬ sp < 0) (h2 : ¬ dp < 0) (h3 : ¬ nn < 0) (e1 : sp.toNatClampNeg = i1) (e2 : dp.toNatClampNeg = i2) (e3 : nn.toNatClampNeg = i3) (h4 : i1 + i3 ≤ na) (h5 : i2 + i3 ≤ nb)
    {n0 : Nat} (N : Fr n0 locs) (ge : n0 ≤ b) {pc : Nat} {Ls : Array Slot} {rest : List Value} (hsize : Ls.size = c.maxLocals) (hd : decode c.code pc = .ok (.invokestatic index, 3)) (hf : 1 ≤ R.frames) (W : Nat) (hW : (rest.map fun v => v.category).sum ≤ W) (hlo : W + 18 ≤ R.locals)
    (k : ∀ T' h' L, Stand p l e R s m args below meth c T' L cells slots → T'.heap = h' → Fr n0 L → Keep h h' [b] → own_AJ Z h' b nb (fun i => if i2 ≤ i ∧ i < i2 + i3 then fa (i1 + (i - i2)) else fb i) → own_Out p e below Q (T'.setTop (mkF m (pc + 3) Ls rest))) :
    own_Out p e below Q (T.setTop (mkF m pc Ls (.int nn :: .int dp :: .ref b :: .int sp :: .ref a :: rest))) := by
  obtain ⟨ka, za, qa, ea, FA⟩ := own_AJ_arv A
  obtain ⟨kb, zb, qb, eb, FB⟩ := own_AJ_arv B
  subst e1 e2 e3
  obtain ⟨T', h', L, X', e', N', K, B', st⟩ := cpA X hx hZ hown w1 w2 w3 w4 eT FA FB (Or.inl ⟨rfl, rfl⟩) h1 h2 h3 (by rw [ea]; exact h4) (by rw [eb]; exact h5) rfl (by simp; exact h5) N ge (g := mkF m pc Ls (.int nn :: .int dp :: .ref b :: .int sp :: .ref a :: rest)) rfl hsize rfl hd hf (W := W) (by show 2 * 0 + _ ≤ _; omega) hlo
  refine own_st st (k T' h' L X' e' N' K (own_arv_AJ B' eb fun i hi => ?_))
  simp only [List.getD_eq_getElem?_getD]
  by_cases q1 : i < dp.toNatClampNeg
  · rw [List.append_assoc, List.getElem?_append_left (by simp; omega), List.getElem?_take_of_lt q1]
    simp [hi, show ¬ (dp.toNatClampNeg ≤ i) from by omega]
  · by_cases q2 : i < dp.toNatClampNeg + nn.toNatClampNeg
    · rw [List.getElem?_append_left (by simp; omega), List.getElem?_append_right (by simp; omega)]
      have q3 : i - min dp.toNatClampNeg nb < nn.toNatClampNeg := by omega
      have q4 : min dp.toNatClampNeg nb = dp.toNatClampNeg := by omega
      have q5 : sp.toNatClampNeg + (i - dp.toNatClampNeg) < na := by omega
      simp [q4, q5, show i - dp.toNatClampNeg < nn.toNatClampNeg from by omega, show dp.toNatClampNeg ≤ i from by omega, q2]
    · rw [List.getElem?_append_right (by simp; omega)]
      have q4 : min dp.toNatClampNeg nb = dp.toNatClampNeg := by omega
      simp only [List.getElem?_drop, List.length_append, List.length_take, List.length_map, List.length_range, q4]
      rw [show dp.toNatClampNeg + nn.toNatClampNeg + (i - (dp.toNatClampNeg + nn.toNatClampNeg)) = i from by omega]
      simp [hi, q2]
end OwnA
end Jvm.RoadKit
namespace Jvm.RoadKit
open Sem ClassFile Op Lib Jvm.Stand Jvm.Free Jvm.LawKit
section OwnB
variable {p : Program} {l : Launch} {e : Env} {R : Room} {s : State} {m : MethodId} {args : Array Value} {below : List Frame} {meth : Method} {c : Code} {T : State} {locs : List Loc} {cells slots : Nat} {Z : State} {a0 : Array Value} {h h' : Heap} {a b : Addr} {n : Nat} {f : Nat → Int32} {r0 : Nat → Value} {Q : Outcome → State → Prop} {ws : List Addr} {sl : Nat} {v : Value}
/-- a byte[] of length n with the components f -/
def own_AB (Z : State) (h : Heap) (a : Addr) (n : Nat) (f : Nat → Int32) : Prop := ∃ c : Cell, Arr Z h a c .byte ∧ c.slots.size = n ∧ n < 2147483648 ∧ (∀ i, i < n → c.slots[i]? = some (.int (f i))) ∧ (∀ i, i < n → fits .byte (.int (f i)) = true) ∧ Exa Z h a "[B"
/-- a byte[][] of length n with the components r0 -/
def own_AR (Z : State) (h : Heap) (a : Addr) (n : Nat) (r0 : Nat → Value) : Prop := ∃ c : Cell, Arr Z h a c (.array .byte) ∧ OvrA Z c.cls .byte "[B" ∧ c.slots.size = n ∧ n < 2147483648 ∧ ∀ i, i < n → c.slots[i]? = some (r0 i)
theorem own_AB_lt (F : own_AB Z h a n f) : a < h.size := by obtain ⟨c, A, -⟩ := F; exact A.lt
theorem own_AR_lt (F : own_AR Z h a n r0) : a < h.size := by obtain ⟨c, A, -⟩ := F; exact A.lt
theorem own_AB_ext (F : own_AB Z h a n f) (E : Ext h h') : own_AB Z h' a n f := by obtain ⟨c, A, r1, r2, r3, r4, r5⟩ := F; exact ⟨c, A.ext E, r1, r2, r3, r4, r5.ext E⟩
theorem own_AR_ext (F : own_AR Z h a n r0) (E : Ext h h') : own_AR Z h' a n r0 := by obtain ⟨c, A, r⟩ := F; exact ⟨c, A.ext E, r⟩
theorem own_AB_other (F : own_AB Z h b n f) (W : Wr h h' a sl v) (q : b ≠ a) : own_AB Z h' b n f := by obtain ⟨c, A, r1, r2, r3, r4, r5⟩ := F; exact ⟨c, A.other W q, r1, r2, r3, r4, r5.wr W⟩
theorem own_AR_other (F : own_AR Z h b n r0) (W : Wr h h' a sl v) (q : b ≠ a) : own_AR Z h' b n r0 := by obtain ⟨c, A, r⟩ := F; exact ⟨c, A.other W q, r⟩
theorem own_AB_keep (F : own_AB Z h a n f) (K : Keep h h' ws) (q : a ∉ ws) : own_AB Z h' a n f := by obtain ⟨c, A, r1, r2, r3, r4, r5⟩ := F; exact ⟨c, ⟨K.2.1 a c A.1 q, A.2⟩, r1, r2, r3, r4, r5.keep K⟩
theorem own_AR_keep (F : own_AR Z h a n r0) (K : Keep h h' ws) (q : a ∉ ws) : own_AR Z h' a n r0 := by obtain ⟨c, A, r⟩ := F; exact ⟨c, ⟨K.2.1 a c A.1 q, A.2⟩, r⟩
/-- every cell below a is as it was -/
def own_Bl (h h' : Heap) (a : Addr) : Prop := h.size ≤ h'.size ∧ ∀ (x : Addr) (c : Cell), h[x]? = some c → x < a → h'[x]? = some c
theorem own_Bl_refl : own_Bl h h a := ⟨Nat.le_refl _, fun _ _ q _ => q⟩
theorem own_Bl_trans {h'' : Heap} (K : own_Bl h h' a) (K' : own_Bl h' h'' a) : own_Bl h h'' a := ⟨Nat.le_trans K.1 K'.1, fun x c q r => K'.2 x c (K.2 x c q r) r⟩
theorem own_Bl_ext {h'' : Heap} (K : own_Bl h h' a) (E : Ext h' h'') : own_Bl h h'' a := own_Bl_trans K ⟨E.1, fun x c q _ => E.2 x c q⟩
theorem own_Bl_wr {a b : Nat} {h'' : Heap} (K : own_Bl h h' a) (W : Wr h' h'' b sl v) (q : a ≤ b) : own_Bl h h'' a := by
  refine own_Bl_trans K ?_
  obtain ⟨cell, h1, -, -, rfl⟩ := W
  exact ⟨by simp, fun x c hx r => by rw [Array.getElem?_setIfInBounds_ne (Nat.ne_of_gt (Nat.lt_of_lt_of_le r q))]; exact hx⟩
theorem own_Bl_keep {a b : Nat} {h'' : Heap} (K : own_Bl h h' a) (W : Keep h' h'' [b]) (q : a ≤ b) : own_Bl h h'' a :=
  own_Bl_trans K ⟨W.1, fun x c hx r => W.2.1 x c hx (fun z => by cases List.mem_singleton.mp z; exact Nat.lt_irrefl _ (Nat.lt_of_lt_of_le r q))⟩
theorem own_AB_bl {a b : Nat} (F : own_AB Z h b n f) (K : own_Bl h h' a) (q : b < a) : own_AB Z h' b n f := by
  obtain ⟨c, A, r1, r2, r3, r4, r5⟩ := F
  obtain ⟨cell, k, h1, r⟩ := r5
  exact ⟨c, ⟨K.2 b c A.1 q, A.2⟩, r1, r2, r3, r4, cell, k, K.2 b cell h1 q, r⟩
theorem own_AB_congr {f' : Nat → Int32} (F : own_AB Z h a n f) (q : ∀ i, i < n → f i = f' i) : own_AB Z h a n f' := by
  obtain ⟨c, A, S, b, H, G, E⟩ := F; exact ⟨c, A, S, b, fun i hi => by rw [H i hi, q i hi], fun i hi => by rw [← q i hi]; exact G i hi, E⟩
theorem own_AB_new {k : ClassId} {z : Int32} (A : Arr Z h a (newA k .byte z) .byte) (E : Exa Z h a "[B") (q : ¬ z < 0) (hn : z.toNatClampNeg = n) : own_AB Z h a n (fun _ => 0) :=
  ⟨_, A, (sz_new _ _ _).trans hn, by subst hn; have := z.toInt_lt; simp only [Int32.toNatClampNeg]; omega, fun i hi => by subst hn; simp [newA, hi]; rfl, fun _ _ => rfl, E⟩
theorem own_AR_new {k : ClassId} {z : Int32} (A : Arr Z h a (newA k (.array .byte) z) (.array .byte)) (O : OvrA Z k .byte "[B") (q : ¬ z < 0) (hn : z.toNatClampNeg = n) : own_AR Z h a n (fun _ => .null) :=
  ⟨_, A, O, (sz_new _ _ _).trans hn, by subst hn; have := z.toInt_lt; simp only [Int32.toNatClampNeg]; omega, fun i hi => by subst hn; simp [newA, hi]; rfl⟩
theorem own_AB_set {x : Int32} {i : Nat} (F : own_AB Z h a n f) (W : Wr h h' a i (.int (nar .byte x))) : own_AB Z h' a n (fun k => if k = i then nar .byte x else f k) := by
  obtain ⟨c, A, S, bn, H, G, E⟩ := F
  refine ⟨_, A.same W, by rw [sz_set]; exact S, bn, fun k hk => ?_, fun k hk => ?_, E.wr W⟩
  · have hk' : k < c.slots.size := S ▸ hk
    by_cases q : k = i
    · subst q; simp [Cell.setSlot, hk']
    · have q' : i ≠ k := fun z => q z.symm
      simp [Cell.setSlot, q, Array.getElem?_setIfInBounds_ne q', H k hk]
  · dsimp only
    by_cases q : k = i
    · rw [if_pos q]; exact fits_nar_byte x
    · rw [if_neg q]; exact G k hk
theorem own_AR_set {i : Nat} (F : own_AR Z h a n r0) (W : Wr h h' a i v) : own_AR Z h' a n (fun k => if k = i then v else r0 k) := by
  obtain ⟨c, A, O, S, bn, H⟩ := F
  refine ⟨_, A.same W, O, by rw [sz_set]; exact S, bn, fun k hk => ?_⟩
  have hk' : k < c.slots.size := S ▸ hk
  by_cases q : k = i
  · subst q; simp [Cell.setSlot, hk']
  · have q' : i ≠ k := fun z => q z.symm
    simp [Cell.setSlot, q, Array.getElem?_setIfInBounds_ne q', H k hk]
theorem own_baload (X : Stand p l e R s m args below meth c T locs cells slots) (hx : p.tables.exec = Jvm.exec) (hZ : Z.Warmed39 s.vm) (eT : T.heap = h) (F : own_AB Z h a n f) {j : Int32} {i : Nat} (hj : ¬ j < 0) (hji : j.toNatClampNeg = i) (hi : i < n)
    {pc : Nat} {Ls : Array Slot} {rest : List Value} (hd : decode c.code pc = .ok (.baload, 1)) (k : own_Out p e below Q (T.setTop (mkF m (pc + 1) Ls (.int (f i) :: rest)))) : own_Out p e below Q (T.setTop (mkF m pc Ls (.int j :: .ref a :: rest))) := by
  obtain ⟨cl, A, S, bn, H, -⟩ := F
  subst hji
  exact own_st (fun t q => X.baloadBytes hx (by rw [eT]; exact A.1) (State.isArrayOf_alike hZ.alike A.2.1) A.2.2 (by rw [S]; exact fun q => q.elim hj (Nat.not_le_of_lt hi)) (H _ hi) (g := mkF m pc Ls (.int j :: .ref a :: rest)) rfl rfl hd t q) k
theorem own_aaload (X : Stand p l e R s m args below meth c T locs cells slots) (hx : p.tables.exec = Jvm.exec) (hZ : Z.Warmed39 s.vm) (eT : T.heap = h) (F : own_AR Z h a n r0) {j : Int32} {i : Nat} (hj : ¬ j < 0) (hji : j.toNatClampNeg = i) (hi : i < n) (hv : r0 i = v)
    {pc : Nat} {Ls : Array Slot} {rest : List Value} (hd : decode c.code pc = .ok (.aaload, 1)) (k : own_Out p e below Q (T.setTop (mkF m (pc + 1) Ls (v :: rest)))) : own_Out p e below Q (T.setTop (mkF m pc Ls (.int j :: .ref a :: rest))) := by
  obtain ⟨cl, A, O, S, bn, H⟩ := F
  subst hji hv
  exact own_st (fun t q => X.aaload hx (by rw [eT]; exact A.1) (State.isArrayOf_alike hZ.alike A.2.1) rfl A.2.2 (by rw [S]; exact fun q => q.elim hj (Nat.not_le_of_lt hi)) (H _ hi) (g := mkF m pc Ls (.int j :: .ref a :: rest)) rfl rfl hd t q) k
theorem own_lenB (X : Stand p l e R s m args below meth c T locs cells slots) (hx : p.tables.exec = Jvm.exec) (hZ : Z.Warmed39 s.vm) (eT : T.heap = h) (F : own_AB Z h a n f) {z : Int32} (hz : n.toInt32 = z)
    {pc : Nat} {Ls : Array Slot} {rest : List Value} (hd : decode c.code pc = .ok (.arraylength, 1)) (k : own_Out p e below Q (T.setTop (mkF m (pc + 1) Ls (.int z :: rest)))) : own_Out p e below Q (T.setTop (mkF m pc Ls (.ref a :: rest))) := by
  obtain ⟨cl, A, S, bn, H, -⟩ := F
  exact own_st (fun t q => X.arraylength hx (by rw [eT]; exact A.1) (State.isArrayOf_alike hZ.alike A.2.1) (g := mkF m pc Ls (.ref a :: rest)) rfl rfl hd t (by rw [S, hz]; exact q)) k
theorem own_lenR (X : Stand p l e R s m args below meth c T locs cells slots) (hx : p.tables.exec = Jvm.exec) (hZ : Z.Warmed39 s.vm) (eT : T.heap = h) (F : own_AR Z h a n r0) {z : Int32} (hz : n.toInt32 = z)
    {pc : Nat} {Ls : Array Slot} {rest : List Value} (hd : decode c.code pc = .ok (.arraylength, 1)) (k : own_Out p e below Q (T.setTop (mkF m (pc + 1) Ls (.int z :: rest)))) : own_Out p e below Q (T.setTop (mkF m pc Ls (.ref a :: rest))) := by
  obtain ⟨cl, A, O, S, bn, H⟩ := F
  exact own_st (fun t q => X.arraylength hx (by rw [eT]; exact A.1) (State.isArrayOf_alike hZ.alike A.2.1) (g := mkF m pc Ls (.ref a :: rest)) rfl rfl hd t (by rw [S, hz]; exact q)) k
theorem own_bastore (X : Stand p l e R s m args below meth c T locs cells slots) (hx : p.tables.exec = Jvm.exec) (hZ : Z.Warmed39 s.vm) (eT : T.heap = h) (F : own_AB Z h a n f) {j : Int32} {x : Int32} {i : Nat} (hj : ¬ j < 0) (hji : j.toNatClampNeg = i) (hi : i < n)
    {pc : Nat} {Ls : Array Slot} {rest : List Value} (hd : decode c.code pc = .ok (.bastore, 1)) (k : ∀ T' h', Stand p l e R s m args below meth c T' (locs ++ [⟨a, i⟩]) cells slots → T'.heap = h' → Wr h h' a i (.int (nar .byte x)) → own_AB Z h' a n (fun k => if k = i then nar .byte x else f k) → own_Out p e below Q (T'.setTop (mkF m (pc + 1) Ls rest))) : own_Out p e below Q (T.setTop (mkF m pc Ls (.int x :: .int j :: .ref a :: rest))) := by
  have F' := F
  obtain ⟨cl, A, S, bn, H, -⟩ := F
  subst hji
  obtain ⟨T', h', X', e', W, st⟩ := stB X hx hZ eT A (j := j) (x := x) (by rw [S]; exact fun q => q.elim hj (Nat.not_le_of_lt hi)) (g := mkF m pc Ls (.int x :: .int j :: .ref a :: rest)) rfl rfl hd
  exact own_st st (k T' h' X' e' W (own_AB_set F' W))
theorem own_aastore (X : Stand p l e R s m args below meth c T locs cells slots) (hx : p.tables.exec = Jvm.exec) (hZ : Z.Warmed39 s.vm) (eT : T.heap = h) (F : own_AR Z h a n r0) (I : v = .null ∨ ∃ b n' f', v = .ref b ∧ own_AB Z h b n' f') {j : Int32} {i : Nat} (hj : ¬ j < 0) (hji : j.toNatClampNeg = i) (hi : i < n)
    {pc : Nat} {Ls : Array Slot} {rest : List Value} (hd : decode c.code pc = .ok (.aastore, 1)) (k : ∀ T' h', Stand p l e R s m args below meth c T' (locs ++ [⟨a, i⟩]) cells slots → T'.heap = h' → Wr h h' a i v → own_AR Z h' a n (fun k => if k = i then v else r0 k) → own_Out p e below Q (T'.setTop (mkF m (pc + 1) Ls rest))) : own_Out p e below Q (T.setTop (mkF m pc Ls (v :: .int j :: .ref a :: rest))) := by
  have F' := F
  obtain ⟨cl, A, O, S, bn, H⟩ := F
  subst hji
  have St : Sto Z h a v := by
    rcases I with rfl | ⟨b, n', f', rfl, G⟩
    · exact Or.inl rfl
    · obtain ⟨-, -, -, -, -, -, E⟩ := G
      exact Sto.ofVA A rfl O (Ins.self E)
  obtain ⟨T', h', X', e', W, st⟩ := stR X hx hZ eT A (j := j) (by rw [S]; exact fun q => q.elim hj (Nat.not_le_of_lt hi)) rfl St (g := mkF m pc Ls (v :: .int j :: .ref a :: rest)) rfl rfl hd
  exact own_st st (k T' h' X' e' W (own_AR_set F' W))
theorem own_AB_arv (F : own_AB Z h a n f) : ∃ k z, ¬ z < 0 ∧ z.toNatClampNeg = n ∧ Arv Z h a k .byte z ((List.range n).map fun i => .int (f i)) (.int 0) := by
  obtain ⟨c, A, S, bn, H, G, -⟩ := F
  have e1 : (Int32.ofNat n).toInt = n := Int32.toInt_ofNat_of_lt (by omega)
  have e2 : (Int32.ofNat n).toNatClampNeg = n := by simp only [Int32.toNatClampNeg, e1]; omega
  have gd : ∀ i, i < n → ((List.range n).map fun i => Value.int (f i)).getD i (.int 0) = .int (f i) := fun i hi => by simp [List.getD_eq_getElem?_getD, hi]
  refine ⟨c.cls, Int32.ofNat n, ?_, e2, c, A, rfl, by rw [S, e2], ?_, fun i hi => ?_, fun i hi => ?_⟩
  · rw [Int32.lt_iff_toInt_lt, e1]; have : (0 : Int32).toInt = 0 := rfl; omega
  · rw [Int32.lt_iff_toInt_lt, e1]; have : (0 : Int32).toInt = 0 := rfl; omega
  · rw [gd i (S ▸ hi)]; exact H i (S ▸ hi)
  · rw [gd i (S ▸ hi)]; exact G i (S ▸ hi)
theorem own_arv_AB {k : ClassId} {z : Int32} {vs : List Value} {dv : Value} (F : Arv Z h a k .byte z vs dv) (E : Exa Z h a "[B") (hn : z.toNatClampNeg = n) (hv : ∀ i, i < n → vs.getD i dv = .int (f i)) : own_AB Z h a n f := by
  obtain ⟨c, A, -, S, q, H, G⟩ := F
  exact ⟨c, A, S.trans hn, by subst hn; have := z.toInt_lt; simp only [Int32.toNatClampNeg]; omega, fun i hi => by rw [H i (by rw [S, hn]; exact hi), hv i hi], fun i hi => by rw [← hv i hi]; exact G i (by rw [S, hn]; exact hi), E⟩
theorem own_arraycopyB (X : Stand p l e R s m args below meth c T locs cells slots) (hx : p.tables.exec = Jvm.exec) (hZ : Z.Warmed39 s.vm) {own : String} {index : Nat} (hown : s.vm.findClass own = some m.cls)
    (w1 : (Cond.methodLink own index Jvm.Stand.acN).before a0 Z = true) (w2 : (Cond.native Jvm.Stand.acN).before a0 Z = true) (w3 : (Cond.static Jvm.Stand.acN).before a0 Z = true) (w4 : (Cond.initialized "java/lang/System").before a0 Z = true) (eT : T.heap = h)
    {na nb : Nat} {fa fb : Nat → Int32} (A : own_AB Z h a na fa) (B : own_AB Z h b nb fb) {sp dp nn : Int32} {i1 i2 i3 : Nat} (h1 : ¬ sp < 0) (h2 : ¬ dp < 0) (h3 : ¬ nn < 0) (e1 : sp.toNatClampNeg = i1) (e2 : dp.toNatClampNeg = i2) (e3 : nn.toNatClampNeg = i3) (h4 : i1 + i3 ≤ na) (h5 : i2 + i3 ≤ nb)
    {n0 : Nat} (N : Fr n0 locs) (ge : n0 ≤ b) {pc : Nat} {Ls : Array Slot} {rest : List Value} (hsize : Ls.size = c.maxLocals) (hd : decode c.code pc = .ok (.invokestatic index, 3)) (hf : 1 ≤ R.frames) (W : Nat) (hW : (rest.map fun v => v.category).sum ≤ W) (hlo : W + 18 ≤ R.locals)
    (k : ∀ T' h' L, Stand p l e R s m args below meth c T' L cells slots → T'.heap = h' → Fr n0 L → Keep h h' [b] → own_AB Z h' b nb (fun i => if i2 ≤ i ∧ i < i2 + i3 then fa (i1 + (i - i2)) else fb i) → own_Out p e below Q (T'.setTop (mkF m (pc + 3) Ls rest))) :
    own_Out p e below Q (T.setTop (mkF m pc Ls (.int nn :: .int dp :: .ref b :: .int sp :: .ref a :: rest))) := by
  obtain ⟨ka, za, qa, ea, FA⟩ := own_AB_arv A
  obtain ⟨kb, zb, qb, eb, FB⟩ := own_AB_arv B
  subst e1 e2 e3
  obtain ⟨T', h', L, X', e', N', K, B', st⟩ := cpA X hx hZ hown w1 w2 w3 w4 eT FA FB (Or.inl ⟨rfl, rfl⟩) h1 h2 h3 (by rw [ea]; exact h4) (by rw [eb]; exact h5) rfl (by simp; exact h5) N ge (g := mkF m pc Ls (.int nn :: .int dp :: .ref b :: .int sp :: .ref a :: rest)) rfl hsize rfl hd hf (W := W) (by show 2 * 0 + _ ≤ _; omega) hlo
  obtain ⟨-, -, -, -, -, -, EB⟩ := B
  refine own_st st (k T' h' L X' e' N' K (own_arv_AB B' (EB.keep K) eb fun i hi => ?_))
  simp only [List.getD_eq_getElem?_getD]
  by_cases q1 : i < dp.toNatClampNeg
  · rw [List.append_assoc, List.getElem?_append_left (by simp; omega), List.getElem?_take_of_lt q1]
    simp [hi, show ¬ (dp.toNatClampNeg ≤ i) from by omega]
  · by_cases q2 : i < dp.toNatClampNeg + nn.toNatClampNeg
    · rw [List.getElem?_append_left (by simp; omega), List.getElem?_append_right (by simp; omega)]
      have q3 : i - min dp.toNatClampNeg nb < nn.toNatClampNeg := by omega
      have q4 : min dp.toNatClampNeg nb = dp.toNatClampNeg := by omega
      have q5 : sp.toNatClampNeg + (i - dp.toNatClampNeg) < na := by omega
      simp [q4, q5, show i - dp.toNatClampNeg < nn.toNatClampNeg from by omega, show dp.toNatClampNeg ≤ i from by omega, q2]
    · rw [List.getElem?_append_right (by simp; omega)]
      have q4 : min dp.toNatClampNeg nb = dp.toNatClampNeg := by omega
      simp only [List.getElem?_drop, List.length_append, List.length_take, List.length_map, List.length_range, q4]
      rw [show dp.toNatClampNeg + nn.toNatClampNeg + (i - (dp.toNatClampNeg + nn.toNatClampNeg)) = i from by omega]
      simp [hi, q2]
theorem own_AB_fit {cl : Cell} (A : Arr Z h a cl .byte) (H : ∀ i, i < cl.slots.size → cl.slots[i]? = some (.int (f i))) (G : ∀ i, i < cl.slots.size → fits .byte (.int (f i)) = true) : FitC Z cl := fun i v hv => by
  obtain ⟨hi, -⟩ := Array.getElem?_eq_some_iff.mp hv
  rw [H i hi] at hv
  obtain rfl := Option.some.inj hv
  obtain ⟨-, k, hk, comp, hkind⟩ := A.2.1
  simp [State.fitsSlot, State.slotType?, hk, hkind, G i hi]
theorem own_clone (X : Stand p l e R s m args below meth c T locs cells slots) (hx : p.tables.exec = Jvm.exec) (hZ : Z.Warmed39 s.vm) {own : String} {index : Nat} (hown : s.vm.findClass own = some m.cls)
    (w1 : (Cond.methodLink own index ⟨"[B", "clone", "()Ljava/lang/Object;"⟩).before a0 Z = true) (w2 : (Cond.sameMethod "[B" "java/lang/Object" "clone" "()Ljava/lang/Object;").before a0 Z = true) (w3 : (Cond.native ⟨"java/lang/Object", "clone", "()Ljava/lang/Object;"⟩).before a0 Z = true)
    (w4 : (Cond.instanceMethod ⟨"java/lang/Object", "clone", "()Ljava/lang/Object;"⟩).before a0 Z = true) (w5 : (Cond.selects "[B" ⟨"[B", "clone", "()Ljava/lang/Object;"⟩ ⟨"java/lang/Object", "clone", "()Ljava/lang/Object;"⟩).before a0 Z = true) (w6 : (Cond.castable "[B" "java/lang/Cloneable").before a0 Z = true)
    (eT : T.heap = h) (F : own_AB Z h a n f) {pc : Nat} {Ls : Array Slot} {rest : List Value} (hsize : Ls.size = c.maxLocals) (hd : decode c.code pc = .ok (.invokevirtual index, 3))
    (hf : 1 ≤ R.frames) (W cap : Nat) (hW : (rest.map fun v => v.category).sum ≤ W) (hl : W + 14 ≤ R.locals) (hcap : n ≤ cap) (hc : cells + 1 ≤ R.cells) (hsl : slots + cap ≤ R.slots)
    (k : ∀ T' h', Stand p l e R s m args below meth c T' locs (cells + 1) (slots + cap) → T'.heap = h' → Ext h h' → own_AB Z h' h.size n f → own_Out p e below Q (T'.setTop (mkF m (pc + 3) Ls (.ref h.size :: rest)))) :
    own_Out p e below Q (T.setTop (mkF m pc Ls (.ref a :: rest))) := by
  obtain ⟨cl, A, S, bn, H, G, E⟩ := F
  obtain ⟨T', h', X', e', ex, A', E', st⟩ := cloneA X hx hZ hown w1 w2 w3 w4 w5 w6 eT A E (own_AB_fit A (S ▸ H) (S ▸ G)) (g := mkF m pc Ls (.ref a :: rest)) rfl hsize rfl hd hf (W := W) (cap := cap) (by show 2 * 0 + _ ≤ _; omega) hl (by rw [S]; exact hcap) hc hsl
  exact own_st st (k T' h' X' e' ex ⟨_, A', S, bn, H, G, E'⟩)
theorem own_AB_ins (F : own_AB Z h a n f) : Ins Z h a "[B" true := by obtain ⟨-, -, -, -, -, -, E⟩ := F; exact Ins.self E
theorem own_ext_keep {h0 : Heap} (E : Ext h0 h) (K : Keep h h' [b]) (q : h0.size ≤ b) : Ext h0 h' :=
  ⟨Nat.le_trans E.1 K.1, fun x c hx => K.2.1 x c (E.2 x c hx) (fun z => by cases List.mem_singleton.mp z; exact Nat.lt_irrefl _ (Nat.lt_of_lt_of_le (Array.getElem?_eq_some_iff.mp hx).1 q))⟩
theorem own_Bl_of_ext (E : Ext h h') : own_Bl h h' a := ⟨E.1, fun x c q _ => E.2 x c q⟩
theorem own_AB_fits {i : Nat} (F : own_AB Z h a n f) (hi : i < n) : nar .byte (f i) = f i := by
  obtain ⟨-, -, -, -, -, G, -⟩ := F
  have g := G i hi
  have q : -128 ≤ f i ∧ f i ≤ 127 := by simpa [fits] using g
  show (f i).toInt8.toInt32 = f i
  have q1 : -128 ≤ (f i).toInt := by have := Int32.le_iff_toInt_le.mp q.1; simpa using this
  have q2 : (f i).toInt ≤ 127 := by have := Int32.le_iff_toInt_le.mp q.2; simpa using this
  refine Int32.toInt_inj.mp ?_
  rw [Int8.toInt_toInt32, Int32.toInt_toInt8]
  exact Int.bmod_eq_of_le (by omega) (by omega)
end OwnB
end Jvm.RoadKit
namespace Jvm.Pilot.@@N@@
open Jvm Jvm.ClassFile Sem Op Lib Jvm.Free Jvm.Stand Jvm.LawKit Jvm.RoadKit Bundle Jvm.Pilot.@@N@@.Jvm.D
theorem own_w {Z : State} {a0 : Array Value} (hw : ∀ d ∈ tables_1, d.before a0 Z = true) {d : Jvm.Cond} (k : Nat) (h : tables_1[k]? = some d) : d.before a0 Z = true := hw _ (List.mem_of_getElem? h)
def own_B (Z : State) (h : Heap) (a : Addr) (f0 : Value) (f1 : Value) (f2 : Value) (f3 : Int32) (f4 : Int64) (f5 : Int32) (f6 : Int32) : Prop := Exa Z h a "com/example/kennel/kennel/Utf8Builder" ∧ Fld Z h a "com/example/kennel/kennel/Utf8Builder" "bytes" "[B" f0 ∧ Fld Z h a "com/example/kennel/kennel/Utf8Builder" "earlier" "[[B" f1 ∧ Fld Z h a "com/example/kennel/kennel/Utf8Builder" "earlierLengths" "[I" f2 ∧ Fld Z h a "com/example/kennel/kennel/Utf8Builder" "earlierCount" "I" (.int f3) ∧ Fld Z h a "com/example/kennel/kennel/Utf8Builder" "before" "J" (.long f4) ∧ Fld Z h a "com/example/kennel/kennel/Utf8Builder" "length" "I" (.int f5) ∧ Fld Z h a "com/example/kennel/kennel/Utf8Builder" "most" "I" (.int f6)
theorem own_B_bytes {Z : State} {a0 : Array Value} (hw : ∀ d ∈ tables_1, d.before a0 Z = true) {h h' : Heap} {a : Addr} {f0 : Value} {f1 : Value} {f2 : Value} {f3 : Int32} {f4 : Int64} {f5 : Int32} {f6 : Int32} {y : Value} (W : Wr h h' a (Jvm.RoadKit.slotOf Z "com/example/kennel/kennel/Utf8Builder" "bytes" "[B") y) (O : own_B Z h a f0 f1 f2 f3 f4 f5 f6) : own_B Z h' a y f1 f2 f3 f4 f5 f6 :=
  ⟨(O.1.wr W), ((O).2.1.same W), ((O).2.2.1.other W (Or.inr (slot_ne (Or.inl (own_w hw 17 rfl)) (Or.inl (own_w hw 13 rfl)) (by decide) (t := .array (.array (.byte))) (t' := .array (.byte)) (by decide) (by decide)))), ((O).2.2.2.1.other W (Or.inr (slot_ne (Or.inl (own_w hw 20 rfl)) (Or.inl (own_w hw 13 rfl)) (by decide) (t := .array (.int)) (t' := .array (.byte)) (by decide) (by decide)))), ((O).2.2.2.2.1.other W (Or.inr (slot_ne (Or.inl (own_w hw 91 rfl)) (Or.inl (own_w hw 13 rfl)) (by decide) (t := .int) (t' := .array (.byte)) (by decide) (by decide)))), ((O).2.2.2.2.2.1.other W (Or.inr (slot_ne (Or.inl (own_w hw 44 rfl)) (Or.inl (own_w hw 13 rfl)) (by decide) (t := .long) (t' := .array (.byte)) (by decide) (by decide)))), ((O).2.2.2.2.2.2.1.other W (Or.inr (slot_ne (Or.inl (own_w hw 33 rfl)) (Or.inl (own_w hw 13 rfl)) (by decide) (t := .int) (t' := .array (.byte)) (by decide) (by decide)))), ((O).2.2.2.2.2.2.2.other W (Or.inr (slot_ne (Or.inr (own_w hw 22 rfl)) (Or.inl (own_w hw 13 rfl)) (by decide) (t := .int) (t' := .array (.byte)) (by decide) (by decide))))⟩
theorem own_B_earlier {Z : State} {a0 : Array Value} (hw : ∀ d ∈ tables_1, d.before a0 Z = true) {h h' : Heap} {a : Addr} {f0 : Value} {f1 : Value} {f2 : Value} {f3 : Int32} {f4 : Int64} {f5 : Int32} {f6 : Int32} {y : Value} (W : Wr h h' a (Jvm.RoadKit.slotOf Z "com/example/kennel/kennel/Utf8Builder" "earlier" "[[B") y) (O : own_B Z h a f0 f1 f2 f3 f4 f5 f6) : own_B Z h' a f0 y f2 f3 f4 f5 f6 :=
  ⟨(O.1.wr W), ((O).2.1.other W (Or.inr (slot_ne (Or.inl (own_w hw 13 rfl)) (Or.inl (own_w hw 17 rfl)) (by decide) (t := .array (.byte)) (t' := .array (.array (.byte))) (by decide) (by decide)))), ((O).2.2.1.same W), ((O).2.2.2.1.other W (Or.inr (slot_ne (Or.inl (own_w hw 20 rfl)) (Or.inl (own_w hw 17 rfl)) (by decide) (t := .array (.int)) (t' := .array (.array (.byte))) (by decide) (by decide)))), ((O).2.2.2.2.1.other W (Or.inr (slot_ne (Or.inl (own_w hw 91 rfl)) (Or.inl (own_w hw 17 rfl)) (by decide) (t := .int) (t' := .array (.array (.byte))) (by decide) (by decide)))), ((O).2.2.2.2.2.1.other W (Or.inr (slot_ne (Or.inl (own_w hw 44 rfl)) (Or.inl (own_w hw 17 rfl)) (by decide) (t := .long) (t' := .array (.array (.byte))) (by decide) (by decide)))), ((O).2.2.2.2.2.2.1.other W (Or.inr (slot_ne (Or.inl (own_w hw 33 rfl)) (Or.inl (own_w hw 17 rfl)) (by decide) (t := .int) (t' := .array (.array (.byte))) (by decide) (by decide)))), ((O).2.2.2.2.2.2.2.other W (Or.inr (slot_ne (Or.inr (own_w hw 22 rfl)) (Or.inl (own_w hw 17 rfl)) (by decide) (t := .int) (t' := .array (.array (.byte))) (by decide) (by decide))))⟩
theorem own_B_earlierLengths {Z : State} {a0 : Array Value} (hw : ∀ d ∈ tables_1, d.before a0 Z = true) {h h' : Heap} {a : Addr} {f0 : Value} {f1 : Value} {f2 : Value} {f3 : Int32} {f4 : Int64} {f5 : Int32} {f6 : Int32} {y : Value} (W : Wr h h' a (Jvm.RoadKit.slotOf Z "com/example/kennel/kennel/Utf8Builder" "earlierLengths" "[I") y) (O : own_B Z h a f0 f1 f2 f3 f4 f5 f6) : own_B Z h' a f0 f1 y f3 f4 f5 f6 :=
  ⟨(O.1.wr W), ((O).2.1.other W (Or.inr (slot_ne (Or.inl (own_w hw 13 rfl)) (Or.inl (own_w hw 20 rfl)) (by decide) (t := .array (.byte)) (t' := .array (.int)) (by decide) (by decide)))), ((O).2.2.1.other W (Or.inr (slot_ne (Or.inl (own_w hw 17 rfl)) (Or.inl (own_w hw 20 rfl)) (by decide) (t := .array (.array (.byte))) (t' := .array (.int)) (by decide) (by decide)))), ((O).2.2.2.1.same W), ((O).2.2.2.2.1.other W (Or.inr (slot_ne (Or.inl (own_w hw 91 rfl)) (Or.inl (own_w hw 20 rfl)) (by decide) (t := .int) (t' := .array (.int)) (by decide) (by decide)))), ((O).2.2.2.2.2.1.other W (Or.inr (slot_ne (Or.inl (own_w hw 44 rfl)) (Or.inl (own_w hw 20 rfl)) (by decide) (t := .long) (t' := .array (.int)) (by decide) (by decide)))), ((O).2.2.2.2.2.2.1.other W (Or.inr (slot_ne (Or.inl (own_w hw 33 rfl)) (Or.inl (own_w hw 20 rfl)) (by decide) (t := .int) (t' := .array (.int)) (by decide) (by decide)))), ((O).2.2.2.2.2.2.2.other W (Or.inr (slot_ne (Or.inr (own_w hw 22 rfl)) (Or.inl (own_w hw 20 rfl)) (by decide) (t := .int) (t' := .array (.int)) (by decide) (by decide))))⟩
theorem own_B_earlierCount {Z : State} {a0 : Array Value} (hw : ∀ d ∈ tables_1, d.before a0 Z = true) {h h' : Heap} {a : Addr} {f0 : Value} {f1 : Value} {f2 : Value} {f3 : Int32} {f4 : Int64} {f5 : Int32} {f6 : Int32} {y : Int32} (W : Wr h h' a (Jvm.RoadKit.slotOf Z "com/example/kennel/kennel/Utf8Builder" "earlierCount" "I") (.int y)) (O : own_B Z h a f0 f1 f2 f3 f4 f5 f6) : own_B Z h' a f0 f1 f2 y f4 f5 f6 :=
  ⟨(O.1.wr W), ((O).2.1.other W (Or.inr (slot_ne (Or.inl (own_w hw 13 rfl)) (Or.inl (own_w hw 91 rfl)) (by decide) (t := .array (.byte)) (t' := .int) (by decide) (by decide)))), ((O).2.2.1.other W (Or.inr (slot_ne (Or.inl (own_w hw 17 rfl)) (Or.inl (own_w hw 91 rfl)) (by decide) (t := .array (.array (.byte))) (t' := .int) (by decide) (by decide)))), ((O).2.2.2.1.other W (Or.inr (slot_ne (Or.inl (own_w hw 20 rfl)) (Or.inl (own_w hw 91 rfl)) (by decide) (t := .array (.int)) (t' := .int) (by decide) (by decide)))), ((O).2.2.2.2.1.same W), ((O).2.2.2.2.2.1.other W (Or.inr (slot_ne (Or.inl (own_w hw 44 rfl)) (Or.inl (own_w hw 91 rfl)) (by decide) (t := .long) (t' := .int) (by decide) (by decide)))), ((O).2.2.2.2.2.2.1.other W (Or.inr (slot_ne (Or.inl (own_w hw 33 rfl)) (Or.inl (own_w hw 91 rfl)) (by decide) (t := .int) (t' := .int) (by decide) (by decide)))), ((O).2.2.2.2.2.2.2.other W (Or.inr (slot_ne (Or.inr (own_w hw 22 rfl)) (Or.inl (own_w hw 91 rfl)) (by decide) (t := .int) (t' := .int) (by decide) (by decide))))⟩
theorem own_B_before {Z : State} {a0 : Array Value} (hw : ∀ d ∈ tables_1, d.before a0 Z = true) {h h' : Heap} {a : Addr} {f0 : Value} {f1 : Value} {f2 : Value} {f3 : Int32} {f4 : Int64} {f5 : Int32} {f6 : Int32} {y : Int64} (W : Wr h h' a (Jvm.RoadKit.slotOf Z "com/example/kennel/kennel/Utf8Builder" "before" "J") (.long y)) (O : own_B Z h a f0 f1 f2 f3 f4 f5 f6) : own_B Z h' a f0 f1 f2 f3 y f5 f6 :=
  ⟨(O.1.wr W), ((O).2.1.other W (Or.inr (slot_ne (Or.inl (own_w hw 13 rfl)) (Or.inl (own_w hw 44 rfl)) (by decide) (t := .array (.byte)) (t' := .long) (by decide) (by decide)))), ((O).2.2.1.other W (Or.inr (slot_ne (Or.inl (own_w hw 17 rfl)) (Or.inl (own_w hw 44 rfl)) (by decide) (t := .array (.array (.byte))) (t' := .long) (by decide) (by decide)))), ((O).2.2.2.1.other W (Or.inr (slot_ne (Or.inl (own_w hw 20 rfl)) (Or.inl (own_w hw 44 rfl)) (by decide) (t := .array (.int)) (t' := .long) (by decide) (by decide)))), ((O).2.2.2.2.1.other W (Or.inr (slot_ne (Or.inl (own_w hw 91 rfl)) (Or.inl (own_w hw 44 rfl)) (by decide) (t := .int) (t' := .long) (by decide) (by decide)))), ((O).2.2.2.2.2.1.same W), ((O).2.2.2.2.2.2.1.other W (Or.inr (slot_ne (Or.inl (own_w hw 33 rfl)) (Or.inl (own_w hw 44 rfl)) (by decide) (t := .int) (t' := .long) (by decide) (by decide)))), ((O).2.2.2.2.2.2.2.other W (Or.inr (slot_ne (Or.inr (own_w hw 22 rfl)) (Or.inl (own_w hw 44 rfl)) (by decide) (t := .int) (t' := .long) (by decide) (by decide))))⟩
theorem own_B_length {Z : State} {a0 : Array Value} (hw : ∀ d ∈ tables_1, d.before a0 Z = true) {h h' : Heap} {a : Addr} {f0 : Value} {f1 : Value} {f2 : Value} {f3 : Int32} {f4 : Int64} {f5 : Int32} {f6 : Int32} {y : Int32} (W : Wr h h' a (Jvm.RoadKit.slotOf Z "com/example/kennel/kennel/Utf8Builder" "length" "I") (.int y)) (O : own_B Z h a f0 f1 f2 f3 f4 f5 f6) : own_B Z h' a f0 f1 f2 f3 f4 y f6 :=
  ⟨(O.1.wr W), ((O).2.1.other W (Or.inr (slot_ne (Or.inl (own_w hw 13 rfl)) (Or.inl (own_w hw 33 rfl)) (by decide) (t := .array (.byte)) (t' := .int) (by decide) (by decide)))), ((O).2.2.1.other W (Or.inr (slot_ne (Or.inl (own_w hw 17 rfl)) (Or.inl (own_w hw 33 rfl)) (by decide) (t := .array (.array (.byte))) (t' := .int) (by decide) (by decide)))), ((O).2.2.2.1.other W (Or.inr (slot_ne (Or.inl (own_w hw 20 rfl)) (Or.inl (own_w hw 33 rfl)) (by decide) (t := .array (.int)) (t' := .int) (by decide) (by decide)))), ((O).2.2.2.2.1.other W (Or.inr (slot_ne (Or.inl (own_w hw 91 rfl)) (Or.inl (own_w hw 33 rfl)) (by decide) (t := .int) (t' := .int) (by decide) (by decide)))), ((O).2.2.2.2.2.1.other W (Or.inr (slot_ne (Or.inl (own_w hw 44 rfl)) (Or.inl (own_w hw 33 rfl)) (by decide) (t := .long) (t' := .int) (by decide) (by decide)))), ((O).2.2.2.2.2.2.1.same W), ((O).2.2.2.2.2.2.2.other W (Or.inr (slot_ne (Or.inr (own_w hw 22 rfl)) (Or.inl (own_w hw 33 rfl)) (by decide) (t := .int) (t' := .int) (by decide) (by decide))))⟩
theorem own_B_most {Z : State} {a0 : Array Value} (hw : ∀ d ∈ tables_1, d.before a0 Z = true) {h h' : Heap} {a : Addr} {f0 : Value} {f1 : Value} {f2 : Value} {f3 : Int32} {f4 : Int64} {f5 : Int32} {f6 : Int32} {y : Int32} (W : Wr h h' a (Jvm.RoadKit.slotOf Z "com/example/kennel/kennel/Utf8Builder" "most" "I") (.int y)) (O : own_B Z h a f0 f1 f2 f3 f4 f5 f6) : own_B Z h' a f0 f1 f2 f3 f4 f5 y :=
  ⟨(O.1.wr W), ((O).2.1.other W (Or.inr (slot_ne (Or.inl (own_w hw 13 rfl)) (Or.inr (own_w hw 22 rfl)) (by decide) (t := .array (.byte)) (t' := .int) (by decide) (by decide)))), ((O).2.2.1.other W (Or.inr (slot_ne (Or.inl (own_w hw 17 rfl)) (Or.inr (own_w hw 22 rfl)) (by decide) (t := .array (.array (.byte))) (t' := .int) (by decide) (by decide)))), ((O).2.2.2.1.other W (Or.inr (slot_ne (Or.inl (own_w hw 20 rfl)) (Or.inr (own_w hw 22 rfl)) (by decide) (t := .array (.int)) (t' := .int) (by decide) (by decide)))), ((O).2.2.2.2.1.other W (Or.inr (slot_ne (Or.inl (own_w hw 91 rfl)) (Or.inr (own_w hw 22 rfl)) (by decide) (t := .int) (t' := .int) (by decide) (by decide)))), ((O).2.2.2.2.2.1.other W (Or.inr (slot_ne (Or.inl (own_w hw 44 rfl)) (Or.inr (own_w hw 22 rfl)) (by decide) (t := .long) (t' := .int) (by decide) (by decide)))), ((O).2.2.2.2.2.2.1.other W (Or.inr (slot_ne (Or.inl (own_w hw 33 rfl)) (Or.inr (own_w hw 22 rfl)) (by decide) (t := .int) (t' := .int) (by decide) (by decide)))), ((O).2.2.2.2.2.2.2.same W)⟩
theorem own_B_ext {Z : State} {h h' : Heap} {a : Addr} {f0 : Value} {f1 : Value} {f2 : Value} {f3 : Int32} {f4 : Int64} {f5 : Int32} {f6 : Int32} (E : Ext h h') (O : own_B Z h a f0 f1 f2 f3 f4 f5 f6) : own_B Z h' a f0 f1 f2 f3 f4 f5 f6 := ⟨(O).1.ext E, (O).2.1.ext E, (O).2.2.1.ext E, (O).2.2.2.1.ext E, (O).2.2.2.2.1.ext E, (O).2.2.2.2.2.1.ext E, (O).2.2.2.2.2.2.1.ext E, (O).2.2.2.2.2.2.2.ext E⟩
theorem own_B_mon {Z : State} {h h' : Heap} {a : Addr} {f0 : Value} {f1 : Value} {f2 : Value} {f3 : Int32} {f4 : Int64} {f5 : Int32} {f6 : Int32} (E : Mon h h') (O : own_B Z h a f0 f1 f2 f3 f4 f5 f6) : own_B Z h' a f0 f1 f2 f3 f4 f5 f6 := ⟨(O).1.mon E, (O).2.1.mon E, (O).2.2.1.mon E, (O).2.2.2.1.mon E, (O).2.2.2.2.1.mon E, (O).2.2.2.2.2.1.mon E, (O).2.2.2.2.2.2.1.mon E, (O).2.2.2.2.2.2.2.mon E⟩
theorem own_B_keep {Z : State} {h h' : Heap} {a : Addr} {ws : List Addr} {f0 : Value} {f1 : Value} {f2 : Value} {f3 : Int32} {f4 : Int64} {f5 : Int32} {f6 : Int32} (K : Keep h h' ws) (q : a ∉ ws) (O : own_B Z h a f0 f1 f2 f3 f4 f5 f6) : own_B Z h' a f0 f1 f2 f3 f4 f5 f6 := ⟨(O).1.keep K, (O).2.1.keep K q, (O).2.2.1.keep K q, (O).2.2.2.1.keep K q, (O).2.2.2.2.1.keep K q, (O).2.2.2.2.2.1.keep K q, (O).2.2.2.2.2.2.1.keep K q, (O).2.2.2.2.2.2.2.keep K q⟩
def own_sum (ln : Nat → Nat) : Nat → Nat
  | 0 => 0
  | k + 1 => own_sum ln k + ln k
def own_cat (ln : Nat → Nat) (ct : Nat → Nat → Int32) : Nat → Nat → Int32
  | 0, p => ct 0 p
  | k + 1, p => if p < own_sum ln (k + 1) then own_cat ln ct k p else ct (k + 1) (p - own_sum ln (k + 1))
theorem own_sum_congr {ln ln' : Nat → Nat} : ∀ k, (∀ i, i < k → ln' i = ln i) → own_sum ln' k = own_sum ln k
  | 0, _ => rfl
  | k + 1, h => by show own_sum ln' k + ln' k = own_sum ln k + ln k; rw [own_sum_congr k fun i hi => h i (by omega), h k (by omega)]
theorem own_sum_mono (ln : Nat → Nat) {i k : Nat} (h : i ≤ k) : own_sum ln i ≤ own_sum ln k := by
  induction h with
  | refl => exact Nat.le_refl _
  | step _ ih => exact Nat.le_trans ih (Nat.le_add_right _ _)
theorem own_cat_congr {ln ln' : Nat → Nat} {ct ct' : Nat → Nat → Int32} : ∀ k p, (∀ i, i < k → ln' i = ln i) → (∀ i, i ≤ k → ∀ q, q < ln i → ct' i q = ct i q) → p < own_sum ln (k + 1) → own_cat ln' ct' k p = own_cat ln ct k p
  | 0, p, _, h, hp => h 0 (Nat.le_refl _) p (by simpa [own_sum] using hp)
  | k + 1, p, h1, h2, hp => by
    have e : own_sum ln' (k + 1) = own_sum ln (k + 1) := own_sum_congr (k + 1) h1
    show (if p < own_sum ln' (k + 1) then _ else _) = (if p < own_sum ln (k + 1) then _ else _)
    rw [e]
    by_cases q : p < own_sum ln (k + 1)
    · rw [if_pos q, if_pos q]; exact own_cat_congr k p (fun i hi => h1 i (by omega)) (fun i hi => h2 i (by omega)) q
    · rw [if_neg q, if_neg q]
      refine h2 (k + 1) (Nat.le_refl _) _ ?_
      have : own_sum ln (k + 1 + 1) = own_sum ln (k + 1) + ln (k + 1) := rfl
      omega
theorem own_cat_at (ln : Nat → Nat) (ct : Nat → Nat → Int32) : ∀ n i p, i ≤ n → p < ln i → own_cat ln ct n (own_sum ln i + p) = ct i p
  | 0, i, p, hi, _ => by obtain rfl : i = 0 := by omega
                         show ct 0 (0 + p) = _; rw [Nat.zero_add]
  | n + 1, i, p, hi, hp => by
    show (if own_sum ln i + p < own_sum ln (n + 1) then _ else _) = _
    by_cases q : i = n + 1
    · subst q; rw [if_neg (by omega), Nat.add_sub_cancel_left]
    · have : own_sum ln (i + 1) ≤ own_sum ln (n + 1) := own_sum_mono ln (by omega)
      have e : own_sum ln (i + 1) = own_sum ln i + ln i := rfl
      rw [if_pos (by omega)]; exact own_cat_at ln ct n i p (by omega) hp
theorem own_tI {n : Nat} (h : n < 2147483648) : (Int32.ofNat n).toInt = n := Int32.toInt_ofNat_of_lt (by omega)
theorem own_tJ {n : Nat} (h : n < 2147483648) : (Int64.ofNat n).toInt = n := Int64.toInt_ofNat_of_lt (by omega)
theorem own_injI {x y : Int32} (h : x.toInt = y.toInt) : x = y := Int32.toInt_inj.mp h
theorem own_injJ {x y : Int64} (h : x.toInt = y.toInt) : x = y := Int64.toInt_inj.mp h
theorem own_ixn {n : Nat} (h : n < 2147483648) : ¬ Int32.ofNat n < 0 ∧ (Int32.ofNat n).toNatClampNeg = n := by
  have e := own_tI h
  refine ⟨?_, by simp only [Int32.toNatClampNeg, e]; omega⟩
  rw [Int32.lt_iff_toInt_lt, e]; have : (0 : Int32).toInt = 0 := rfl; omega
theorem own_i64 {n : Nat} (h : n < 2147483648) : (Int32.ofNat n).toInt64 = Int64.ofNat n := own_injJ (by rw [Int32.toInt_toInt64, own_tI h, own_tJ h])
theorem own_i32 {n : Nat} (h : n < 2147483648) : (Int64.ofNat n).toInt32 = Int32.ofNat n := own_injI (by rw [Int64.toInt_toInt32, own_tI h, own_tJ h]; exact Int.bmod_eq_of_le (by omega) (by omega))
theorem own_addI {x y : Nat} (h : x + y < 2147483648) : Int32.ofNat x + Int32.ofNat y = Int32.ofNat (x + y) := own_injI (by
  rw [Int32.toInt_add, own_tI (by omega), own_tI (by omega), own_tI h]; rw [Int.bmod_eq_of_le (by omega) (by omega)]; omega)
theorem own_subI {x y : Nat} (h : x < 2147483648) (q : y ≤ x) : Int32.ofNat x - Int32.ofNat y = Int32.ofNat (x - y) := own_injI (by
  rw [Int32.toInt_sub, own_tI (by omega), own_tI (by omega), own_tI (by omega)]; rw [Int.bmod_eq_of_le (by omega) (by omega)]; omega)
theorem own_addJ {x y : Nat} (h : x + y < 2147483648) : Int64.ofNat x + Int64.ofNat y = Int64.ofNat (x + y) := own_injJ (by
  rw [Int64.toInt_add, own_tJ (by omega), own_tJ (by omega), own_tJ h]; rw [Int.bmod_eq_of_le (by omega) (by omega)]; omega)
theorem own_subJ {x y : Nat} (h : x < 2147483648) (q : y ≤ x) : Int64.ofNat x - Int64.ofNat y = Int64.ofNat (x - y) := own_injJ (by
  rw [Int64.toInt_sub, own_tJ (by omega), own_tJ (by omega), own_tJ (by omega)]; rw [Int.bmod_eq_of_le (by omega) (by omega)]; omega)
theorem own_ltI {x y : Nat} (h : x < 2147483648) (q : y < 2147483648) : Int32.ofNat x < Int32.ofNat y ↔ x < y := by rw [Int32.lt_iff_toInt_lt, own_tI h, own_tI q]; omega
theorem own_ltJ {x y : Nat} (h : x < 2147483648) (q : y < 2147483648) : Int64.ofNat x < Int64.ofNat y ↔ x < y := by rw [Int64.lt_iff_toInt_lt, own_tJ h, own_tJ q]; omega
theorem own_eqI {x y : Nat} (h : x < 2147483648) (q : y < 2147483648) : Int32.ofNat x = Int32.ofNat y ↔ x = y := ⟨fun e => by have := congrArg Int32.toInt e; rw [own_tI h, own_tI q] at this; omega, fun e => by rw [e]⟩
theorem own_tot {ln : Nat → Nat} {n t : Nat} (h : own_sum ln (n + 1) = t) (q : t < 2147483648) : Int64.ofNat (own_sum ln n) + (Int32.ofNat (ln n)).toInt64 = Int64.ofNat t := by
  have e : own_sum ln (n + 1) = own_sum ln n + ln n := rfl
  rw [own_i64 (by omega), own_addJ (by omega)]; exact congrArg Int64.ofNat (by omega)
def own_UP (n0 a n : Nat) (ck cap ln : Nat → Nat) (ea la : Nat) (fe : Nat → Value) (fl : Nat → Int32) : Prop :=
  n0 ≤ a ∧ a < ck 0 ∧ ck 0 < ea ∧ ea < la ∧ (∀ i, 1 ≤ i → i ≤ n → la < ck i) ∧ (∀ i j, i < j → j ≤ n → ck i < ck j) ∧ (∀ i, i < n → fe i = .ref (ck i)) ∧ (∀ i, i < n → fl i = Int32.ofNat (ln i)) ∧ (∀ i, i ≤ n → ln i ≤ cap i) ∧ (∀ i, i ≤ n → cap i ≤ 1534)
def own_U (Z : State) (h : Heap) (a n0 n : Nat) (ck cap ln : Nat → Nat) (ct : Nat → Nat → Int32) (ea la : Nat) (fe : Nat → Value) (fl : Nat → Int32) : Prop :=
  own_B Z h a (.ref (ck n)) (.ref ea) (.ref la) (Int32.ofNat n) (Int64.ofNat (own_sum ln n)) (Int32.ofNat (ln n)) (1048576 : Int32) ∧ own_AR Z h ea 4 fe ∧ own_AI Z h la 4 fl ∧ (∀ i, i ≤ n → own_AB Z h (ck i) (cap i) (ct i)) ∧ own_UP n0 a n ck cap ln ea la fe fl
/-- the builder at a, in at most mm + 1 chunks, holds the tt bytes F, and her last chunk has room for rr more -/
def own_V (Z : State) (h : Heap) (a n0 mm tt : Nat) (F : Nat → Int32) (rr : Nat) : Prop :=
  ∃ (n : Nat) (ck cap ln : Nat → Nat) (ct : Nat → Nat → Int32) (ea la : Nat) (fe : Nat → Value) (fl : Nat → Int32), own_U Z h a n0 n ck cap ln ct ea la fe fl ∧ n ≤ mm ∧ own_sum ln (n + 1) = tt ∧ (∀ p, p < tt → own_cat ln ct n p = F p) ∧ ln n + rr ≤ cap n
theorem own_neA {x y : Nat} (h : x < y ∨ y < x) : x ≠ y := by omega
theorem own_ckge {n0 a n : Nat} {ck cap ln : Nat → Nat} {ea la : Nat} {fe : Nat → Value} {fl : Nat → Int32} (P : own_UP n0 a n ck cap ln ea la fe fl) : ∀ i, i ≤ n → a < ck i ∧ ck i ≠ ea ∧ ck i ≠ la ∧ n0 ≤ ck i ∧ ck i ≠ a := fun i hi => by
  obtain ⟨p1, p2, p3, p4, p5, -⟩ := P
  by_cases q : i = 0
  · subst q; refine ⟨p2, ?_, ?_, ?_, ?_⟩ <;> omega
  · have := p5 i (by omega) hi
    refine ⟨?_, ?_, ?_, ?_, ?_⟩ <;> omega
theorem own_V_grow {Z : State} {h : Heap} {a n0 n mm tt mo na : Nat} {ck cap ln : Nat → Nat} {ct : Nat → Nat → Int32} {ea la : Nat} {fe : Nat → Value} {fl : Nat → Int32} {F : Nat → Int32}
    (O : own_B Z h a (.ref na) (.ref ea) (.ref la) (Int32.ofNat (n + 1)) (Int64.ofNat tt) (0 : Int32) (1048576 : Int32)) (Fe : own_AR Z h ea 4 (fun k => if k = n then .ref (ck n) else fe k)) (Fl : own_AI Z h la 4 (fun k => if k = n then Int32.ofNat (ln n) else fl k))
    (Fc : ∀ i, i ≤ n → own_AB Z h (ck i) (cap i) (ct i)) (Fn : own_AB Z h na (max mo tt) (fun _ => 0)) (P : own_UP n0 a n ck cap ln ea la fe fl) (hn : n ≤ mm) (ht : own_sum ln (n + 1) = tt) (hF : ∀ p, p < tt → own_cat ln ct n p = F p) (hmo : mo ≤ 1533) (htt : tt ≤ 1533) (hlt : ∀ i, i ≤ n → ck i < na) (hla : la < na) :
    own_V Z h a n0 (mm + 1) tt F mo := by
  obtain ⟨p1, p2, p3, p4, p5, p6, p7, p8, p9, p10⟩ := P
  have s1 : own_sum (fun i => if i = n + 1 then 0 else ln i) (n + 1) = tt := by
    rw [← ht]; exact own_sum_congr _ fun i hi => if_neg (by omega)
  refine ⟨n + 1, (fun i => if i = n + 1 then na else ck i), (fun i => if i = n + 1 then max mo tt else cap i), (fun i => if i = n + 1 then 0 else ln i), (fun i => if i = n + 1 then (fun _ => 0) else ct i), ea, la, _, _, ⟨?_, Fe, Fl, fun i hi => ?_, p1, ?_, ?_, p4, ?_, ?_, ?_, ?_, ?_, ?_⟩, by omega, ?_, fun p hp => ?_, ?_⟩
  · rw [s1]; simp only [if_true]; exact O
  · by_cases q : i = n + 1
    · simp only [q, if_true]; exact Fn
    · simp only [q, if_false]; exact Fc i (by omega)
  · simpa using p2
  · simpa using p3
  · intro i h1 h2; dsimp only
    by_cases q : i = n + 1
    · rw [if_pos q]; exact hla
    · rw [if_neg q]; exact p5 i h1 (by omega)
  · intro i j h1 h2; dsimp only
    rw [if_neg (show ¬ i = n + 1 by omega)]
    by_cases q : j = n + 1
    · rw [if_pos q]; exact hlt i (by omega)
    · rw [if_neg q]; exact p6 i j h1 (by omega)
  · intro i h1; dsimp only
    rw [if_neg (show ¬ i = n + 1 by omega)]
    by_cases q : i = n
    · rw [if_pos q, q]
    · rw [if_neg q]; exact p7 i (by omega)
  · intro i h1; dsimp only
    rw [if_neg (show ¬ i = n + 1 by omega)]
    by_cases q : i = n
    · rw [if_pos q, q]
    · rw [if_neg q]; exact p8 i (by omega)
  · intro i h1; dsimp only
    by_cases q : i = n + 1
    · rw [if_pos q, if_pos q]; exact Nat.zero_le _
    · rw [if_neg q, if_neg q]; exact p9 i (by omega)
  · intro i h1; dsimp only
    by_cases q : i = n + 1
    · rw [if_pos q]; omega
    · rw [if_neg q]; exact p10 i (by omega)
  · show own_sum _ (n + 1) + _ = tt
    rw [s1]; simp
  · show (if p < own_sum _ (n + 1) then _ else _) = _
    rw [s1, if_pos hp, ← hF p hp]
    exact own_cat_congr n p (fun i hi => if_neg (by omega)) (fun i hi q _ => by simp only [show ¬ i = n + 1 by omega, if_false]) (by rw [ht]; exact hp)
  · simp only [if_true]; omega
theorem own_V_app {Z : State} {h : Heap} {a n0 n mm tt k : Nat} {ck cap ln : Nat → Nat} {ct : Nat → Nat → Int32} {ea la : Nat} {fe : Nat → Value} {fl : Nat → Int32} {F fr : Nat → Int32}
    (O : own_B Z h a (.ref (ck n)) (.ref ea) (.ref la) (Int32.ofNat n) (Int64.ofNat (own_sum ln n)) (Int32.ofNat (ln n + k)) (1048576 : Int32)) (Fe : own_AR Z h ea 4 fe) (Fl : own_AI Z h la 4 fl)
    (Fn : own_AB Z h (ck n) (cap n) (fun i => if ln n ≤ i ∧ i < ln n + k then fr (0 + (i - ln n)) else ct n i)) (Fc : ∀ i, i < n → own_AB Z h (ck i) (cap i) (ct i)) (P : own_UP n0 a n ck cap ln ea la fe fl) (hn : n ≤ mm) (ht : own_sum ln (n + 1) = tt) (hF : ∀ p, p < tt → own_cat ln ct n p = F p) (hr : ln n + k ≤ cap n) :
    own_V Z h a n0 mm (tt + k) (fun p => if p < tt then F p else fr (p - tt)) 0 := by
  obtain ⟨p1, p2, p3, p4, p5, p6, p7, p8, p9, p10⟩ := P
  have e0 : own_sum ln (n + 1) = own_sum ln n + ln n := rfl
  have s1 : own_sum (fun i => if i = n then ln n + k else ln i) n = own_sum ln n := own_sum_congr _ fun i hi => if_neg (by omega)
  have s2 : own_sum (fun i => if i = n then ln n + k else ln i) (n + 1) = tt + k := by
    show own_sum _ n + _ = _
    rw [s1]; simp only [if_true]; omega
  refine ⟨n, ck, cap, (fun i => if i = n then ln n + k else ln i), (fun i => if i = n then (fun i => if ln n ≤ i ∧ i < ln n + k then fr (0 + (i - ln n)) else ct n i) else ct i), ea, la, fe, fl, ⟨?_, Fe, Fl, fun i hi => ?_, p1, p2, p3, p4, p5, p6, p7, fun i hi => ?_, fun i hi => ?_, p10⟩, hn, s2, fun p hp => ?_, ?_⟩
  · rw [s1]; simp only [if_true]; exact O
  · by_cases q : i = n
    · subst q; simp only [if_true]; exact Fn
    · simp only [q, if_false]; exact Fc i (by omega)
  · dsimp only; rw [if_neg (by omega)]; exact p8 i hi
  · dsimp only
    by_cases q : i = n
    · rw [if_pos q, q]; exact hr
    · rw [if_neg q]; exact p9 i hi
  · dsimp only
    by_cases q : p < tt
    · rw [if_pos q, ← hF p q]
      refine own_cat_congr n p (fun i hi => if_neg (by omega)) (fun i hi r hr' => ?_) (by omega)
      by_cases q2 : i = n
      · subst q2; simp only [if_true]; rw [if_neg (by omega)]
      · simp only [q2, if_false]
    · rw [if_neg q]
      have := own_cat_at (fun i => if i = n then ln n + k else ln i) (fun i => if i = n then (fun i => if ln n ≤ i ∧ i < ln n + k then fr (0 + (i - ln n)) else ct n i) else ct i) n n (p - own_sum ln n) (Nat.le_refl _) (by simp only [if_true]; omega)
      rw [s1, show own_sum ln n + (p - own_sum ln n) = p by omega] at this
      rw [this]; simp only [if_true]
      rw [if_pos (by omega)]; congr 1; omega
  · simp only [if_true]; omega
/-- the last step of truncate -/
theorem own_V_cut {Z : State} {h : Heap} {a n0 n mm q : Nat} {ck cap ln : Nat → Nat} {ct : Nat → Nat → Int32} {ea la : Nat} {fe : Nat → Value} {fl : Nat → Int32} {F : Nat → Int32}
    (O : own_B Z h a (.ref (ck n)) (.ref ea) (.ref la) (Int32.ofNat n) (Int64.ofNat (own_sum ln n)) (Int32.ofNat (q - own_sum ln n)) (1048576 : Int32)) (Fe : own_AR Z h ea 4 fe) (Fl : own_AI Z h la 4 fl)
    (Fc : ∀ i, i ≤ n → own_AB Z h (ck i) (cap i) (ct i)) (P : own_UP n0 a n ck cap ln ea la fe fl) (hn : n ≤ mm) (h1 : own_sum ln n ≤ q) (h2 : q ≤ own_sum ln (n + 1)) (hF : ∀ p, p < q → own_cat ln ct n p = F p) :
    own_V Z h a n0 mm q F 0 := by
  obtain ⟨p1, p2, p3, p4, p5, p6, p7, p8, p9, p10⟩ := P
  have e0 : own_sum ln (n + 1) = own_sum ln n + ln n := rfl
  have s1 : own_sum (fun i => if i = n then q - own_sum ln n else ln i) n = own_sum ln n := own_sum_congr _ fun i hi => if_neg (by omega)
  have s2 : own_sum (fun i => if i = n then q - own_sum ln n else ln i) (n + 1) = q := by
    show own_sum _ n + _ = _
    rw [s1]; simp only [if_true]; omega
  have hc := p9 n (Nat.le_refl _)
  refine ⟨n, ck, cap, (fun i => if i = n then q - own_sum ln n else ln i), ct, ea, la, fe, fl, ⟨?_, Fe, Fl, Fc, p1, p2, p3, p4, p5, p6, p7, fun i hi => ?_, fun i hi => ?_, p10⟩, hn, s2, fun p hp => ?_, ?_⟩
  · rw [s1]; simp only [if_true]; exact O
  · dsimp only; rw [if_neg (by omega)]; exact p8 i hi
  · dsimp only
    by_cases z : i = n
    · rw [if_pos z, z]; omega
    · rw [if_neg z]; exact p9 i hi
  · rw [← hF p hp]
    refine (own_cat_congr n p (fun i hi => ?_) (fun i hi r _ => rfl) ?_).symm
    · rw [if_neg (by omega)]
    · rw [s2]; exact hp
  · simp only [if_true]; omega
theorem own_V_init {Z : State} {h : Heap} {a n0 c0 ea la : Nat} {F : Nat → Int32} (O : own_B Z h a (.ref c0) (.ref ea) (.ref la) (0 : Int32) (0 : Int64) (0 : Int32) (1048576 : Int32)) (Fe : own_AR Z h ea 4 (fun _ => .null)) (Fl : own_AI Z h la 4 (fun _ => 0)) (Fc : own_AB Z h c0 256 (fun _ => 0)) (g0 : n0 ≤ a) (g1 : a < c0) (g2 : c0 < ea) (g3 : ea < la) : own_V Z h a n0 0 0 F 0 :=
  ⟨0, fun _ => c0, fun _ => 256, fun _ => 0, fun _ _ => 0, ea, la, _, _, ⟨O, Fe, Fl, fun _ _ => Fc, g0, g1, g2, g3, fun i h1 h2 => absurd h1 (by omega), fun i j h1 h2 => absurd h1 (by omega), fun i hi => absurd hi (by omega), fun i hi => absurd hi (by omega), fun _ _ => Nat.zero_le _, fun _ _ => (by decide : 256 ≤ 1534)⟩, Nat.le_refl _, rfl, fun y hy => absurd hy (by omega), by decide⟩
theorem own_V_weak {Z : State} {h : Heap} {a n0 mm tt rr : Nat} {F : Nat → Int32} (V : own_V Z h a n0 mm tt F rr) : own_V Z h a n0 (mm + 1) tt F 0 := by
  obtain ⟨n, ck, cap, ln, ct, ea, la, fe, fl, U, hn, ht, hF, hr⟩ := V
  exact ⟨n, ck, cap, ln, ct, ea, la, fe, fl, U, by omega, ht, hF, by omega⟩
theorem own_UP_pop {n0 a k : Nat} {ck cap ln : Nat → Nat} {ea la : Nat} {fe : Nat → Value} {fl : Nat → Int32} (P : own_UP n0 a (k + 1) ck cap ln ea la fe fl) : own_UP n0 a k ck cap ln ea la (fun y => if y = k then .null else fe y) fl := by
  obtain ⟨p1, p2, p3, p4, p5, p6, p7, p8, p9, p10⟩ := P
  exact ⟨p1, p2, p3, p4, fun i h1 h2 => p5 i h1 (by omega), fun i j h1 h2 => p6 i j h1 (by omega), fun i hi => by dsimp only; rw [if_neg (by omega)]; exact p7 i (by omega), fun i hi => p8 i (by omega), fun i hi => p9 i (by omega), fun i hi => p10 i (by omega)⟩
theorem own_cat_pop {ln : Nat → Nat} {ct : Nat → Nat → Int32} {k : Nat} {F : Nat → Int32} (h : ∀ y, y < own_sum ln (k + 1 + 1) → own_cat ln ct (k + 1) y = F y) : ∀ y, y < own_sum ln (k + 1) → own_cat ln ct k y = F y := fun y hy => by
  rw [← h y (Nat.lt_of_lt_of_le hy (Nat.le_add_right _ _))]
  exact (if_pos hy).symm
theorem own_most {t : Nat} (h : t ≤ 1600) : ¬ (1048576 : Int32).toInt64 < Int64.ofNat t := fun z => by
  have e : (1048576 : Int32).toInt64 = Int64.ofNat 1048576 := by decide
  rw [e] at z
  have := (own_ltJ (by decide) (by omega)).mp z
  omega
theorem own_ne4 {n : Nat} (h : n ≤ 3) : ¬ Int32.ofNat n = (4 : Int32) := fun z => by
  have := (own_eqI (y := 4) (by omega) (by decide)).mp z
  omega
theorem own_sub0I (x : Int32) : x - (0 : Int32) = x := Int32.sub_zero x
theorem own_sub0J (x : Int64) : x - (0 : Int64) = x := Int64.sub_zero x
theorem own_room {c n mo : Nat} (hc : c ≤ 1534) (hn : n ≤ c) (hmo : mo ≤ 1533) (z : ¬ (Int32.ofNat c - Int32.ofNat n).toInt64 < Int64.ofNat mo) : n + mo ≤ c := by
  rw [own_subI (by omega) hn, own_i64 (by omega), own_ltJ (by omega) (by omega)] at z
  omega
theorem own_dec (x : Int32) : x + (-1 : Int32) = x - (1 : Int32) := (Int32.sub_eq_add_neg ..).symm
theorem own_hg {ln : Nat → Nat} {ct : Nat → Nat → Int32} {n k t : Nat} {F g : Nat → Int32} (hk : k ≤ n) (hF : ∀ y, y < t → own_cat ln ct n y = F y) (hg : ∀ y, own_sum ln (k + 1) ≤ y → y < t → g y = F y) (ht : own_sum ln (k + 1) ≤ t) :
    ∀ y, own_sum ln k ≤ y → y < t → (fun i => if own_sum ln k ≤ i ∧ i < own_sum ln k + ln k then ct k (0 + (i - own_sum ln k)) else g i) y = F y := fun y h1 h2 => by
  have e : own_sum ln (k + 1) = own_sum ln k + ln k := rfl
  dsimp only
  by_cases q : y < own_sum ln k + ln k
  · rw [if_pos ⟨h1, q⟩, ← hF y h2]
    have := own_cat_at ln ct n k (y - own_sum ln k) hk (by omega)
    rw [show own_sum ln k + (y - own_sum ln k) = y by omega] at this
    rw [this, Nat.zero_add]
  · rw [if_neg (fun z => q z.2)]; exact hg y (by omega) h2
theorem own_V_put {Z : State} {h : Heap} {a n0 n mm tt : Nat} {ck cap ln : Nat → Nat} {ct : Nat → Nat → Int32} {ea la : Nat} {fe : Nat → Value} {fl : Nat → Int32} {F : Nat → Int32} {x : Int32}
    (O : own_B Z h a (.ref (ck n)) (.ref ea) (.ref la) (Int32.ofNat n) (Int64.ofNat (own_sum ln n)) (Int32.ofNat (ln n + 1)) (1048576 : Int32)) (Fe : own_AR Z h ea 4 fe) (Fl : own_AI Z h la 4 fl)
    (Fn : own_AB Z h (ck n) (cap n) (fun i => if i = ln n then x else ct n i)) (Fc : ∀ i, i < n → own_AB Z h (ck i) (cap i) (ct i)) (P : own_UP n0 a n ck cap ln ea la fe fl) (hn : n ≤ mm) (ht : own_sum ln (n + 1) = tt) (hF : ∀ p, p < tt → own_cat ln ct n p = F p) (hr : ln n + 1 ≤ cap n) :
    own_V Z h a n0 mm (tt + 1) (fun p => if p < tt then F p else x) 0 :=
  own_V_app (fr := fun _ => x) O Fe Fl (own_AB_congr Fn fun i hi => by
    by_cases q : i = ln n
    · rw [if_pos q, if_pos (by omega)]
    · rw [if_neg q, if_neg (by omega)]) Fc P hn ht hF hr
theorem own_and511 (x : Int32) : ∃ n, n ≤ 511 ∧ x &&& 511 = Int32.ofNat n := by
  have e : (x &&& 511).toBitVec = x.toBitVec &&& 511#32 := rfl
  have l : (x &&& 511).toBitVec.toNat < 512 := by
    rw [e, BitVec.toNat_and]; exact Nat.lt_of_le_of_lt Nat.and_le_right (by decide)
  have t : (x &&& 511).toInt = (x &&& 511).toBitVec.toNat := by
    show (x &&& 511).toBitVec.toInt = _
    rw [BitVec.toInt_eq_toNat_of_lt (by omega)]
  exact ⟨(x &&& 511).toBitVec.toNat, by omega, own_injI (by rw [t, own_tI (by omega)])⟩
def own_exp (na nc i : Nat) : Nat := if i < na then i else if i < na + nc then i - na else i - na - nc
theorem own_expF {na nc nd i : Nat} {F fr : Nat → Int32} (h : i < na + nc + nd) : (fun p => if p < na + nc then (fun p => if p < na then (fun p => if p < 0 then F p else fr (p - 0)) p else fr (p - na)) p else fr (p - (na + nc))) i = fr (own_exp na nc i) := by
  dsimp only [own_exp]
  by_cases q : i < na
  · rw [if_pos (by omega), if_pos q, if_neg (by omega), if_pos q]; rfl
  · by_cases q2 : i < na + nc
    · rw [if_pos q2, if_neg q, if_neg q, if_pos q2]
    · rw [if_neg q2, if_neg q, if_neg q2]; congr 1; omega

def own_minJ (x : Int64) (y : Int64) : Int64 := (if y < x then y else x)
theorem pn_own_wminJ : plainFor (⟨"java/lang/Math", "min", "(JJ)J"⟩ : MethodName) = true := by first | exact plainFor_of_name (by first | (simp [plainName, overriddenIn]; done) | decide +kernel) | decide +kernel
theorem down_wminJ_0 : decode jdk_29_method_70_code 0 = .ok (.lload_n 0, 1) := by decide +kernel
theorem down_wminJ_1 : decode jdk_29_method_70_code 1 = .ok (.lload_n 2, 1) := by decide +kernel
theorem down_wminJ_2 : decode jdk_29_method_70_code 2 = .ok (.lcmp, 1) := by decide +kernel
theorem down_wminJ_3 : decode jdk_29_method_70_code 3 = .ok (.ifCond .gt 7, 3) := by decide +kernel
theorem down_wminJ_6 : decode jdk_29_method_70_code 6 = .ok (.lload_n 0, 1) := by decide +kernel
theorem down_wminJ_7 : decode jdk_29_method_70_code 7 = .ok (.goto 4, 3) := by decide +kernel
theorem down_wminJ_10 : decode jdk_29_method_70_code 10 = .ok (.lload_n 2, 1) := by decide +kernel
theorem down_wminJ_11 : decode jdk_29_method_70_code 11 = .ok (.lreturn, 1) := by decide +kernel
def Q_own_wminJ (Z : State) (x : Int64) (y : Int64)  (h0 : Heap) (n0 : Nat) (v : Option Value) (h : Heap) (L : List Loc) : Prop := v = some (.long (own_minJ x y)) ∧ L = [] ∧ h = h0
set_option maxRecDepth 65536 in
set_option maxHeartbeats 40000000 in
theorem own_wminJ (l : Launch) (Z : State) (a0 : Array Value) (hw : ∀ d ∈ tables_1, d.before a0 Z = true) (ws : List Jvm.Cond) (x : Int64) (y : Int64)  (h0 : Heap) (n0 : Nat)  :
    MetFree l (⟨"java/lang/Math", "min", "(JJ)J"⟩ : MethodName) (head1 (Jvm.Cond.code (⟨"java/lang/Math", "min", "(JJ)J"⟩ : MethodName) jdk_29_method_70_code 4 (some (.long)) :: ws) ({ frames := 0, cells := 0, slots := 0, locals := 0 } : Room)) (fun aa U => aa = #[(.long x), (.long y)] ∧ Z.Warmed39 U.vm ∧ U.heap = h0) (fun _ _ _ _ _ => True) (fun _ U o U' => ∃ v L, o = .returned v ∧ Q_own_wminJ Z x y h0 n0 v U'.heap L ∧ FrameEnd U o U' L ({ frames := 0, cells := 0, slots := 0, locals := 0 } : Room).cells ({ frames := 0, cells := 0, slots := 0, locals := 0 } : Room).slots) := by
  refine own_body (x := (⟨"java/lang/Math", "min", "(JJ)J"⟩ : MethodName)) (maxL := 4) (as' := #[(.long x), (.long y)]) (Q := Q_own_wminJ Z x y h0 n0) pn_own_wminJ #[.val (.long x), .second, .val (.long y), .second] (fun m => by first | (simp [entryFrame, mkF, argsToLocals, Value.category]; done) | rfl) ?_
  intro p e s m below meth c T0 X0 hx hby hml hret hlk hown hnm hZ e0
  replace hml : c.maxLocals = 4 := hml
  replace hown : s.vm.findClass "java/lang/Math" = some m.cls := hown
  have N0 := Fr.nil n0
  refine own_st (G := T0.setTop (mkF m 1 #[.val (.long x), .second, .val (.long y), .second] [(.long x)])) (fun _ kk => XS.lloadN X0.here hx rfl (hb hby down_wminJ_0) rfl kk) ?_
  refine own_st (G := T0.setTop (mkF m 2 #[.val (.long x), .second, .val (.long y), .second] [(.long y), (.long x)])) (fun _ kk => XS.lloadN X0.here hx rfl (hb hby down_wminJ_1) rfl kk) ?_
  refine own_st (G := T0.setTop (mkF m 3 #[.val (.long x), .second, .val (.long y), .second] [(.int (BdW.cmpL x y))])) (fun _ kk => XT.lcmp X0.here hx rfl (hb hby down_wminJ_2) rfl kk) ?_
  by_cases hc1 : y < x
  · skip
    refine own_st (G := T0.setTop (mkF m 10 #[.val (.long x), .second, .val (.long y), .second] [])) (fun _ kk => XS.ifYes X0.here hx rfl (pc0 := 3) (pc' := 10) rfl (hb hby down_wminJ_3) rfl (XT.ll_gt_t hc1) (by decide) (by decide) kk) ?_
    refine own_st (G := T0.setTop (mkF m 11 #[.val (.long x), .second, .val (.long y), .second] [(.long y)])) (fun _ kk => XS.lloadN X0.here hx rfl (hb hby down_wminJ_10) rfl kk) ?_
    refine own_retJ X0 hx hret hlk (hb hby down_wminJ_11) (by decide) (by decide) ?_
    exact ⟨by (rw [show (own_minJ x y) = y from by unfold own_minJ; rw [if_pos hc1]]; first | done | rfl), rfl, e0⟩
  · skip
    refine own_st (G := T0.setTop (mkF m 6 #[.val (.long x), .second, .val (.long y), .second] [])) (fun _ kk => XS.ifNo X0.here hx rfl (hb hby down_wminJ_3) rfl (XT.ll_gt_f hc1) kk) ?_
    refine own_st (G := T0.setTop (mkF m 7 #[.val (.long x), .second, .val (.long y), .second] [(.long x)])) (fun _ kk => XS.lloadN X0.here hx rfl (hb hby down_wminJ_6) rfl kk) ?_
    refine own_st (G := T0.setTop (mkF m 11 #[.val (.long x), .second, .val (.long y), .second] [(.long x)])) (fun _ kk => XS.goto X0.here hx rfl (pc0 := 7) (pc' := 11) rfl (hb hby down_wminJ_7) (by decide) (by decide) kk) ?_
    refine own_retJ X0 hx hret hlk (hb hby down_wminJ_11) (by decide) (by decide) ?_
    exact ⟨by (rw [show (own_minJ x y) = x from by unfold own_minJ; rw [if_neg hc1]]; first | done | rfl), rfl, e0⟩
def own_maxJ (x : Int64) (y : Int64) : Int64 := (if x < y then y else x)
theorem pn_own_wmaxJ : plainFor (⟨"java/lang/Math", "max", "(JJ)J"⟩ : MethodName) = true := by first | exact plainFor_of_name (by first | (simp [plainName, overriddenIn]; done) | decide +kernel) | decide +kernel
theorem down_wmaxJ_0 : decode jdk_29_method_66_code 0 = .ok (.lload_n 0, 1) := by decide +kernel
theorem down_wmaxJ_1 : decode jdk_29_method_66_code 1 = .ok (.lload_n 2, 1) := by decide +kernel
theorem down_wmaxJ_2 : decode jdk_29_method_66_code 2 = .ok (.lcmp, 1) := by decide +kernel
theorem down_wmaxJ_3 : decode jdk_29_method_66_code 3 = .ok (.ifCond .lt 7, 3) := by decide +kernel
theorem down_wmaxJ_6 : decode jdk_29_method_66_code 6 = .ok (.lload_n 0, 1) := by decide +kernel
theorem down_wmaxJ_7 : decode jdk_29_method_66_code 7 = .ok (.goto 4, 3) := by decide +kernel
theorem down_wmaxJ_10 : decode jdk_29_method_66_code 10 = .ok (.lload_n 2, 1) := by decide +kernel
theorem down_wmaxJ_11 : decode jdk_29_method_66_code 11 = .ok (.lreturn, 1) := by decide +kernel
def Q_own_wmaxJ (Z : State) (x : Int64) (y : Int64)  (h0 : Heap) (n0 : Nat) (v : Option Value) (h : Heap) (L : List Loc) : Prop := v = some (.long (own_maxJ x y)) ∧ L = [] ∧ h = h0
set_option maxRecDepth 65536 in
set_option maxHeartbeats 40000000 in
theorem own_wmaxJ (l : Launch) (Z : State) (a0 : Array Value) (hw : ∀ d ∈ tables_1, d.before a0 Z = true) (ws : List Jvm.Cond) (x : Int64) (y : Int64)  (h0 : Heap) (n0 : Nat)  :
    MetFree l (⟨"java/lang/Math", "max", "(JJ)J"⟩ : MethodName) (head1 (Jvm.Cond.code (⟨"java/lang/Math", "max", "(JJ)J"⟩ : MethodName) jdk_29_method_66_code 4 (some (.long)) :: ws) ({ frames := 0, cells := 0, slots := 0, locals := 0 } : Room)) (fun aa U => aa = #[(.long x), (.long y)] ∧ Z.Warmed39 U.vm ∧ U.heap = h0) (fun _ _ _ _ _ => True) (fun _ U o U' => ∃ v L, o = .returned v ∧ Q_own_wmaxJ Z x y h0 n0 v U'.heap L ∧ FrameEnd U o U' L ({ frames := 0, cells := 0, slots := 0, locals := 0 } : Room).cells ({ frames := 0, cells := 0, slots := 0, locals := 0 } : Room).slots) := by
  refine own_body (x := (⟨"java/lang/Math", "max", "(JJ)J"⟩ : MethodName)) (maxL := 4) (as' := #[(.long x), (.long y)]) (Q := Q_own_wmaxJ Z x y h0 n0) pn_own_wmaxJ #[.val (.long x), .second, .val (.long y), .second] (fun m => by first | (simp [entryFrame, mkF, argsToLocals, Value.category]; done) | rfl) ?_
  intro p e s m below meth c T0 X0 hx hby hml hret hlk hown hnm hZ e0
  replace hml : c.maxLocals = 4 := hml
  replace hown : s.vm.findClass "java/lang/Math" = some m.cls := hown
  have N0 := Fr.nil n0
  refine own_st (G := T0.setTop (mkF m 1 #[.val (.long x), .second, .val (.long y), .second] [(.long x)])) (fun _ kk => XS.lloadN X0.here hx rfl (hb hby down_wmaxJ_0) rfl kk) ?_
  refine own_st (G := T0.setTop (mkF m 2 #[.val (.long x), .second, .val (.long y), .second] [(.long y), (.long x)])) (fun _ kk => XS.lloadN X0.here hx rfl (hb hby down_wmaxJ_1) rfl kk) ?_
  refine own_st (G := T0.setTop (mkF m 3 #[.val (.long x), .second, .val (.long y), .second] [(.int (BdW.cmpL x y))])) (fun _ kk => XT.lcmp X0.here hx rfl (hb hby down_wmaxJ_2) rfl kk) ?_
  by_cases hc1 : x < y
  · skip
    refine own_st (G := T0.setTop (mkF m 10 #[.val (.long x), .second, .val (.long y), .second] [])) (fun _ kk => XS.ifYes X0.here hx rfl (pc0 := 3) (pc' := 10) rfl (hb hby down_wmaxJ_3) rfl (XT.ll_lt_t hc1) (by decide) (by decide) kk) ?_
    refine own_st (G := T0.setTop (mkF m 11 #[.val (.long x), .second, .val (.long y), .second] [(.long y)])) (fun _ kk => XS.lloadN X0.here hx rfl (hb hby down_wmaxJ_10) rfl kk) ?_
    refine own_retJ X0 hx hret hlk (hb hby down_wmaxJ_11) (by decide) (by decide) ?_
    exact ⟨by (rw [show (own_maxJ x y) = y from by unfold own_maxJ; rw [if_pos hc1]]; first | done | rfl), rfl, e0⟩
  · skip
    refine own_st (G := T0.setTop (mkF m 6 #[.val (.long x), .second, .val (.long y), .second] [])) (fun _ kk => XS.ifNo X0.here hx rfl (hb hby down_wmaxJ_3) rfl (XT.ll_lt_f hc1) kk) ?_
    refine own_st (G := T0.setTop (mkF m 7 #[.val (.long x), .second, .val (.long y), .second] [(.long x)])) (fun _ kk => XS.lloadN X0.here hx rfl (hb hby down_wmaxJ_6) rfl kk) ?_
    refine own_st (G := T0.setTop (mkF m 11 #[.val (.long x), .second, .val (.long y), .second] [(.long x)])) (fun _ kk => XS.goto X0.here hx rfl (pc0 := 7) (pc' := 11) rfl (hb hby down_wmaxJ_7) (by decide) (by decide) kk) ?_
    refine own_retJ X0 hx hret hlk (hb hby down_wmaxJ_11) (by decide) (by decide) ?_
    exact ⟨by (rw [show (own_maxJ x y) = x from by unfold own_maxJ; rw [if_neg hc1]]; first | done | rfl), rfl, e0⟩
def own_minI (x : Int32) (y : Int32) : Int32 := (if y < x then y else x)
theorem pn_own_wminI : plainFor (⟨"java/lang/Math", "min", "(II)I"⟩ : MethodName) = true := by first | exact plainFor_of_name (by first | (simp [plainName, overriddenIn]; done) | decide +kernel) | decide +kernel
theorem down_wminI_0 : decode jdk_29_method_69_code 0 = .ok (.iload_n 0, 1) := by decide +kernel
theorem down_wminI_1 : decode jdk_29_method_69_code 1 = .ok (.iload_n 1, 1) := by decide +kernel
theorem down_wminI_2 : decode jdk_29_method_69_code 2 = .ok (.if_icmp .gt 7, 3) := by decide +kernel
theorem down_wminI_5 : decode jdk_29_method_69_code 5 = .ok (.iload_n 0, 1) := by decide +kernel
theorem down_wminI_6 : decode jdk_29_method_69_code 6 = .ok (.goto 4, 3) := by decide +kernel
theorem down_wminI_9 : decode jdk_29_method_69_code 9 = .ok (.iload_n 1, 1) := by decide +kernel
theorem down_wminI_10 : decode jdk_29_method_69_code 10 = .ok (.ireturn, 1) := by decide +kernel
def Q_own_wminI (Z : State) (x : Int32) (y : Int32)  (h0 : Heap) (n0 : Nat) (v : Option Value) (h : Heap) (L : List Loc) : Prop := v = some (.int (own_minI x y)) ∧ L = [] ∧ h = h0
set_option maxRecDepth 65536 in
set_option maxHeartbeats 40000000 in
theorem own_wminI (l : Launch) (Z : State) (a0 : Array Value) (hw : ∀ d ∈ tables_1, d.before a0 Z = true) (ws : List Jvm.Cond) (x : Int32) (y : Int32)  (h0 : Heap) (n0 : Nat)  :
    MetFree l (⟨"java/lang/Math", "min", "(II)I"⟩ : MethodName) (head1 (Jvm.Cond.code (⟨"java/lang/Math", "min", "(II)I"⟩ : MethodName) jdk_29_method_69_code 2 (some (.int)) :: ws) ({ frames := 0, cells := 0, slots := 0, locals := 0 } : Room)) (fun aa U => aa = #[(.int x), (.int y)] ∧ Z.Warmed39 U.vm ∧ U.heap = h0) (fun _ _ _ _ _ => True) (fun _ U o U' => ∃ v L, o = .returned v ∧ Q_own_wminI Z x y h0 n0 v U'.heap L ∧ FrameEnd U o U' L ({ frames := 0, cells := 0, slots := 0, locals := 0 } : Room).cells ({ frames := 0, cells := 0, slots := 0, locals := 0 } : Room).slots) := by
  refine own_body (x := (⟨"java/lang/Math", "min", "(II)I"⟩ : MethodName)) (maxL := 2) (as' := #[(.int x), (.int y)]) (Q := Q_own_wminI Z x y h0 n0) pn_own_wminI #[.val (.int x), .val (.int y)] (fun m => by first | (simp [entryFrame, mkF, argsToLocals, Value.category]; done) | rfl) ?_
  intro p e s m below meth c T0 X0 hx hby hml hret hlk hown hnm hZ e0
  replace hml : c.maxLocals = 2 := hml
  replace hown : s.vm.findClass "java/lang/Math" = some m.cls := hown
  have N0 := Fr.nil n0
  refine own_st (G := T0.setTop (mkF m 1 #[.val (.int x), .val (.int y)] [(.int x)])) (fun _ kk => XS.iloadN X0.here hx rfl (hb hby down_wminI_0) rfl kk) ?_
  refine own_st (G := T0.setTop (mkF m 2 #[.val (.int x), .val (.int y)] [(.int y), (.int x)])) (fun _ kk => XS.iloadN X0.here hx rfl (hb hby down_wminI_1) rfl kk) ?_
  by_cases hc1 : y < x
  · skip
    refine own_st (G := T0.setTop (mkF m 9 #[.val (.int x), .val (.int y)] [])) (fun _ kk => XS.icmpYes X0.here hx rfl (pc0 := 2) (pc' := 9) rfl (hb hby down_wminI_2) rfl (XT.ii_gt_t hc1) (by decide) (by decide) kk) ?_
    refine own_st (G := T0.setTop (mkF m 10 #[.val (.int x), .val (.int y)] [(.int y)])) (fun _ kk => XS.iloadN X0.here hx rfl (hb hby down_wminI_9) rfl kk) ?_
    refine own_retI X0 hx hret hlk (hb hby down_wminI_10) (by decide) (by decide) ?_
    exact ⟨by (rw [show (own_minI x y) = y from by unfold own_minI; rw [if_pos hc1]]; first | done | rfl), rfl, e0⟩
  · skip
    refine own_st (G := T0.setTop (mkF m 5 #[.val (.int x), .val (.int y)] [])) (fun _ kk => XS.icmpNo X0.here hx rfl (hb hby down_wminI_2) rfl (XT.ii_gt_f hc1) kk) ?_
    refine own_st (G := T0.setTop (mkF m 6 #[.val (.int x), .val (.int y)] [(.int x)])) (fun _ kk => XS.iloadN X0.here hx rfl (hb hby down_wminI_5) rfl kk) ?_
    refine own_st (G := T0.setTop (mkF m 10 #[.val (.int x), .val (.int y)] [(.int x)])) (fun _ kk => XS.goto X0.here hx rfl (pc0 := 6) (pc' := 10) rfl (hb hby down_wminI_6) (by decide) (by decide) kk) ?_
    refine own_retI X0 hx hret hlk (hb hby down_wminI_10) (by decide) (by decide) ?_
    exact ⟨by (rw [show (own_minI x y) = x from by unfold own_minI; rw [if_neg hc1]]; first | done | rfl), rfl, e0⟩
theorem own_minJ_nat {x y : Nat} (hx : x < 2147483648) (hy : y < 2147483648) : own_minJ (Int64.ofNat x) (Int64.ofNat y) = Int64.ofNat (min x y) := by
  unfold own_minJ
  by_cases q : y < x
  · rw [if_pos ((own_ltJ hy hx).mpr q)]; exact congrArg Int64.ofNat (by omega)
  · rw [if_neg (fun z => q ((own_ltJ hy hx).mp z))]; exact congrArg Int64.ofNat (by omega)
theorem own_maxJ_nat {x y : Nat} (hx : x < 2147483648) (hy : y < 2147483648) : own_maxJ (Int64.ofNat x) (Int64.ofNat y) = Int64.ofNat (max x y) := by
  unfold own_maxJ
  by_cases q : x < y
  · rw [if_pos ((own_ltJ hx hy).mpr q)]; exact congrArg Int64.ofNat (by omega)
  · rw [if_neg (fun z => q ((own_ltJ hx hy).mp z))]; exact congrArg Int64.ofNat (by omega)
theorem own_minI_nat {x y : Nat} (hx : x < 2147483648) (hy : y < 2147483648) : own_minI (Int32.ofNat x) (Int32.ofNat y) = Int32.ofNat (min x y) := by
  unfold own_minI
  by_cases q : y < x
  · rw [if_pos ((own_ltI hy hx).mpr q)]; exact congrArg Int32.ofNat (by omega)
  · rw [if_neg (fun z => q ((own_ltI hy hx).mp z))]; exact congrArg Int32.ofNat (by omega)
theorem own_max0 {x : Nat} (hx : x < 2147483648) : own_maxJ (0 : Int64) ((0 : Int64) - Int64.ofNat x) = (0 : Int64) := by
  unfold own_maxJ
  refine if_neg fun z => ?_
  rw [Int64.lt_iff_toInt_lt, Int64.toInt_sub, own_tJ hx] at z
  have e : (0 : Int64).toInt = 0 := rfl
  rw [e, Int.bmod_eq_of_le (by omega) (by omega)] at z
  omega

theorem own_first {ln : Nat → Nat} {ct : Nat → Nat → Int32} {n t : Nat} {F : Nat → Int32} (hs0 : own_sum ln n = 0) (ht : own_sum ln (n + 1) = t) (hF : ∀ y, y < t → own_cat ln ct n y = F y) : ∀ i, i < ln n → ct n i = F i := fun i hi => by
  have e : own_sum ln (n + 1) = own_sum ln n + ln n := rfl
  rw [← hF i (by omega), ← own_cat_at ln ct n n i (Nat.le_refl _) hi, hs0, Nat.zero_add]
theorem own_pos {x : Nat} (h : x < 2147483648) : ((0 : Int64) < Int64.ofNat x ↔ 0 < x) ∧ ((0 : Int32) < Int32.ofNat x ↔ 0 < x) := ⟨own_ltJ (x := 0) (by decide) h, own_ltI (x := 0) (by decide) h⟩
theorem own_nz {t : Nat} (h : t < 2147483647) : ¬ Int64.ofNat (t + 1) = 0 := fun z => by
  have := congrArg Int64.toInt z
  rw [own_tJ (by omega)] at this
  have e : (0 : Int64).toInt = 0 := rfl
  omega
theorem own_cc (x : Int32) : (x &&& 127).toUInt32.toUInt16.toUInt32.toInt32 < 128 := by
  have e : (x &&& 127).toBitVec = x.toBitVec &&& 127#32 := rfl
  have l : (x &&& 127).toBitVec.toNat < 128 := by
    rw [e, BitVec.toNat_and]; exact Nat.lt_of_le_of_lt Nat.and_le_right (by decide)
  have l2 : (x &&& 127).toUInt32.toNat < 128 := l
  have l3 : (x &&& 127).toUInt32.toUInt16.toUInt32.toNat < 128 := by
    rw [UInt16.toNat_toUInt32, UInt32.toNat_toUInt16]; omega
  generalize (x &&& 127).toUInt32.toUInt16.toUInt32 = u at l3
  have t : u.toInt32.toInt = u.toNat := by
    show u.toBitVec.toInt = _
    rw [BitVec.toInt_eq_toNat_of_lt (by show 2 * u.toNat < _; omega)]; rfl
  rw [Int32.lt_iff_toInt_lt, t]
  have : (128 : Int32).toInt = 128 := rfl
  omega
theorem own_kept (x : Int64) {t : Nat} (ht : t < 2147483647) : ∃ q, q ≤ t ∧ (x &&& 9223372036854775807) - ((x &&& 9223372036854775807) / Int64.ofNat (t + 1)) * Int64.ofNat (t + 1) = Int64.ofNat q := by
  have e : (x &&& 9223372036854775807).toBitVec = x.toBitVec &&& 9223372036854775807#64 := rfl
  have l : (x &&& 9223372036854775807).toBitVec.toNat ≤ 9223372036854775807 := by
    rw [e, BitVec.toNat_and]; exact Nat.and_le_right
  have tt : (x &&& 9223372036854775807).toInt = (x &&& 9223372036854775807).toBitVec.toNat := by
    show (x &&& 9223372036854775807).toBitVec.toInt = _
    rw [BitVec.toInt_eq_toNat_of_lt (by omega)]
  generalize (x &&& 9223372036854775807) = y at l tt
  generalize y.toBitVec.toNat = Y at l tt
  have d : (Int64.ofNat (t + 1)).toInt = ((t + 1 : Nat) : Int) := own_tJ (by omega)
  have hm : Y % (t + 1) < t + 1 := Nat.mod_lt _ (by omega)
  have hd : (t + 1) * (Y / (t + 1)) + Y % (t + 1) = Y := Nat.div_add_mod _ _
  have hdl : Y / (t + 1) ≤ Y := Nat.div_le_self _ _
  have e1 : (y / Int64.ofNat (t + 1)).toInt = ((Y / (t + 1) : Nat) : Int) := by
    rw [Int64.toInt_div, tt, d, ← Int.ofNat_tdiv]
    generalize Y / (t + 1) = D at hdl
    exact Int.bmod_eq_of_le (by omega) (by omega)
  generalize Y / (t + 1) = D at hd hdl e1
  generalize hM : (t + 1) * D = M at hd
  have e2 : (y / Int64.ofNat (t + 1) * Int64.ofNat (t + 1)).toInt = (M : Int) := by
    rw [Int64.toInt_mul, e1, d, ← Int.natCast_mul, Nat.mul_comm, hM]
    exact Int.bmod_eq_of_le (by omega) (by omega)
  refine ⟨Y % (t + 1), by omega, own_injJ ?_⟩
  generalize Y % (t + 1) = R at hd hm
  rw [Int64.toInt_sub, e2, tt, own_tJ (by omega), Int.bmod_eq_of_le (by omega) (by omega)]
  omega
theorem own_probe (x : Int32) {q : Nat} (h0 : 0 < q) (hq : q < 2147483648) : ∃ z, z < q ∧ (x &&& 2147483647) % Int32.ofNat q = Int32.ofNat z := by
  have e : (x &&& 2147483647).toBitVec = x.toBitVec &&& 2147483647#32 := rfl
  have l : (x &&& 2147483647).toBitVec.toNat ≤ 2147483647 := by
    rw [e, BitVec.toNat_and]; exact Nat.and_le_right
  have tt : (x &&& 2147483647).toInt = (x &&& 2147483647).toBitVec.toNat := by
    show (x &&& 2147483647).toBitVec.toInt = _
    rw [BitVec.toInt_eq_toNat_of_lt (by omega)]
  refine ⟨(x &&& 2147483647).toBitVec.toNat % q, Nat.mod_lt _ h0, own_injI ?_⟩
  have hm : (x &&& 2147483647).toBitVec.toNat % q < q := Nat.mod_lt _ h0
  rw [Int32.toInt_mod, tt, own_tI hq, own_tI (by omega)]
  exact (Int.ofNat_tmod ..).symm
theorem own_V_exa {Z : State} {h : Heap} {a n0 mm tt rr : Nat} {F : Nat → Int32} (V : own_V Z h a n0 mm tt F rr) : Exa Z h a "com/example/kennel/kennel/Utf8Builder" := by
  obtain ⟨n, ck, cap, ln, ct, ea, la, fe, fl, ⟨O, -⟩, -⟩ := V
  exact O.1
theorem own_expF3 {na nc nd : Nat} {F0 F1 F2 F3 fr : Nat → Int32} (h1 : F1 = fun p => if p < 0 then F0 p else fr (p - 0)) (h2 : F2 = fun p => if p < na then F1 p else fr (p - na)) (h3 : F3 = fun p => if p < na + nc then F2 p else fr (p - (na + nc))) : ∀ i, i < na + nc + nd → F3 i = fr (own_exp na nc i) := fun i hi => by
  subst h3 h2 h1; exact own_expF hi
theorem own_narb (x : Int32) : nar .byte x.toInt8.toInt32 = x.toInt8.toInt32 := by
  show (x.toInt8.toInt32).toInt8.toInt32 = _
  generalize x.toInt8 = y
  refine own_injI ?_
  rw [Int8.toInt_toInt32, Int32.toInt_toInt8, Int8.toInt_toInt32]
  have h1 := y.toInt_lt
  have h2 := y.le_toInt
  exact Int.bmod_eq_of_le (by omega) (by omega)
theorem own_nzI {q : Nat} (h0 : 0 < q) (hq : q < 2147483648) : Int32.ofNat q ≠ 0 := fun z => by
  have := congrArg Int32.toInt z
  rw [own_tI hq] at this
  have e : (0 : Int32).toInt = 0 := rfl
  omega

theorem pn_own_len : plainFor (⟨"com/example/kennel/kennel/Utf8Builder", "length", "()J"⟩ : MethodName) = true := by first | exact plainFor_of_name (by first | (simp [plainName, overriddenIn]; done) | decide +kernel) | decide +kernel
theorem down_len_0 : decode prog_48_method_3_code 0 = .ok (.aload_n 0, 1) := by decide +kernel
theorem down_len_1 : decode prog_48_method_3_code 1 = .ok (.getfield 32, 3) := by decide +kernel
theorem down_len_4 : decode prog_48_method_3_code 4 = .ok (.aload_n 0, 1) := by decide +kernel
theorem down_len_5 : decode prog_48_method_3_code 5 = .ok (.getfield 36, 3) := by decide +kernel
theorem down_len_8 : decode prog_48_method_3_code 8 = .ok (.i2l, 1) := by decide +kernel
theorem down_len_9 : decode prog_48_method_3_code 9 = .ok (.ladd, 1) := by decide +kernel
theorem down_len_10 : decode prog_48_method_3_code 10 = .ok (.lreturn, 1) := by decide +kernel
def Q_own_len (Z : State)  (a mm tt rr : Nat) (F : Nat → Int32) (h0 : Heap) (n0 : Nat) (v : Option Value) (h : Heap) (L : List Loc) : Prop := v = some (.long (Int64.ofNat tt)) ∧ L = [] ∧ h = h0
set_option maxRecDepth 65536 in
set_option maxHeartbeats 40000000 in
theorem own_len (l : Launch) (Z : State) (a0 : Array Value) (hw : ∀ d ∈ tables_1, d.before a0 Z = true) (ws : List Jvm.Cond)  (a mm tt rr : Nat) (F : Nat → Int32) (h0 : Heap) (n0 : Nat) (V0 : own_V Z h0 a n0 mm tt F rr) (htt : tt ≤ 1600) :
    MetFree l (⟨"com/example/kennel/kennel/Utf8Builder", "length", "()J"⟩ : MethodName) (head1 (Jvm.Cond.code (⟨"com/example/kennel/kennel/Utf8Builder", "length", "()J"⟩ : MethodName) prog_48_method_3_code 1 (some (.long)) :: ws) ({ frames := 0, cells := 0, slots := 0, locals := 0 } : Room)) (fun aa U => aa = #[(.ref a)] ∧ Z.Warmed39 U.vm ∧ U.heap = h0) (fun _ _ _ _ _ => True) (fun _ U o U' => ∃ v L, o = .returned v ∧ Q_own_len Z a mm tt rr F h0 n0 v U'.heap L ∧ FrameEnd U o U' L ({ frames := 0, cells := 0, slots := 0, locals := 0 } : Room).cells ({ frames := 0, cells := 0, slots := 0, locals := 0 } : Room).slots) := by
  refine own_body (x := (⟨"com/example/kennel/kennel/Utf8Builder", "length", "()J"⟩ : MethodName)) (maxL := 1) (as' := #[(.ref a)]) (Q := Q_own_len Z a mm tt rr F h0 n0) pn_own_len #[.val (.ref a)] (fun m => by first | (simp [entryFrame, mkF, argsToLocals, Value.category]; done) | rfl) ?_
  intro p e s m below meth c T0 X0 hx hby hml hret hlk hown hnm hZ e0
  replace hml : c.maxLocals = 1 := hml
  replace hown : s.vm.findClass "com/example/kennel/kennel/Utf8Builder" = some m.cls := hown
  have N0 := Fr.nil n0
  obtain ⟨n, ck, cap, ln, ct, ea, la, fe, fl, ⟨O, Fe, Fl, Fc, P⟩, hn, ht, hF, hr⟩ := V0
  have hck := own_ckge P
  obtain ⟨P1, P2, P3, P4, P5, P6, P7, P8, P9, P10⟩ := id P
  have Bl0 := own_Bl_refl (h := h0) (a := a)
  refine own_st (G := T0.setTop (mkF m 1 #[.val (.ref a)] [(.ref a)])) (fun _ kk => XS.aloadN X0.here hx rfl (hb hby down_len_0) rfl rfl kk) ?_
  obtain ⟨T1, X2, e3, st4⟩ := getF X0 hx hZ hown (host := "") (Or.inl (own_w hw 43 rfl)) Via.refl e0 (O).2.2.2.2.2.1 (g := (mkF m 1 #[.val (.ref a)] [(.ref a)])) rfl rfl (hb hby down_len_1)
  refine own_st st4 ?_
  show own_Out _ _ _ _ (T1.setTop (mkF m 4 #[.val (.ref a)] [(.long (Int64.ofNat (own_sum ln n)))]))
  refine own_st (G := T1.setTop (mkF m 5 #[.val (.ref a)] [(.ref a), (.long (Int64.ofNat (own_sum ln n)))])) (fun _ kk => XS.aloadN X2.here hx rfl (hb hby down_len_4) rfl rfl kk) ?_
  obtain ⟨T5, X6, e7, st8⟩ := getF X2 hx hZ hown (host := "") (Or.inl (own_w hw 32 rfl)) Via.refl e3 (O).2.2.2.2.2.2.1 (g := (mkF m 5 #[.val (.ref a)] [(.ref a), (.long (Int64.ofNat (own_sum ln n)))])) rfl rfl (hb hby down_len_5)
  refine own_st st8 ?_
  show own_Out _ _ _ _ (T5.setTop (mkF m 8 #[.val (.ref a)] [(.int (Int32.ofNat (ln n))), (.long (Int64.ofNat (own_sum ln n)))]))
  refine own_st (G := T5.setTop (mkF m 9 #[.val (.ref a)] [(.long (Int32.ofNat (ln n)).toInt64), (.long (Int64.ofNat (own_sum ln n)))])) (fun _ kk => XS.i2l X6.here hx rfl (hb hby down_len_8) rfl kk) ?_
  refine own_st (G := T5.setTop (mkF m 10 #[.val (.ref a)] [(.long ((Int64.ofNat (own_sum ln n)) + (Int32.ofNat (ln n)).toInt64))])) (fun _ kk => XS.ladd X6.here hx rfl (hb hby down_len_9) rfl kk) ?_
  refine own_retJ X6 hx hret hlk (hb hby down_len_10) (by decide) (by decide) ?_
  exact ⟨by rw [own_tot ht (by omega)], rfl, e7⟩
theorem pn_own_grow : plainFor (⟨"com/example/kennel/kennel/Utf8Builder", "grow", "(J)V"⟩ : MethodName) = true := by first | exact plainFor_of_name (by first | (simp [plainName, overriddenIn]; done) | decide +kernel) | decide +kernel
theorem down_grow_0 : decode prog_48_method_21_code 0 = .ok (.aload_n 0, 1) := by decide +kernel
theorem down_grow_1 : decode prog_48_method_21_code 1 = .ok (.getfield 32, 3) := by decide +kernel
theorem down_grow_4 : decode prog_48_method_21_code 4 = .ok (.aload_n 0, 1) := by decide +kernel
theorem down_grow_5 : decode prog_48_method_21_code 5 = .ok (.getfield 36, 3) := by decide +kernel
theorem down_grow_8 : decode prog_48_method_21_code 8 = .ok (.i2l, 1) := by decide +kernel
theorem down_grow_9 : decode prog_48_method_21_code 9 = .ok (.ladd, 1) := by decide +kernel
theorem down_grow_10 : decode prog_48_method_21_code 10 = .ok (.lstore_n 3, 1) := by decide +kernel
theorem down_grow_11 : decode prog_48_method_21_code 11 = .ok (.lload_n 3, 1) := by decide +kernel
theorem down_grow_12 : decode prog_48_method_21_code 12 = .ok (.aload_n 0, 1) := by decide +kernel
theorem down_grow_13 : decode prog_48_method_21_code 13 = .ok (.getfield 28, 3) := by decide +kernel
theorem down_grow_16 : decode prog_48_method_21_code 16 = .ok (.i2l, 1) := by decide +kernel
theorem down_grow_17 : decode prog_48_method_21_code 17 = .ok (.lcmp, 1) := by decide +kernel
theorem down_grow_18 : decode prog_48_method_21_code 18 = .ok (.ifCond .le 15, 3) := by decide +kernel
theorem down_grow_33 : decode prog_48_method_21_code 33 = .ok (.aload_n 0, 1) := by decide +kernel
theorem down_grow_34 : decode prog_48_method_21_code 34 = .ok (.getfield 61, 3) := by decide +kernel
theorem down_grow_37 : decode prog_48_method_21_code 37 = .ok (.aload_n 0, 1) := by decide +kernel
theorem down_grow_38 : decode prog_48_method_21_code 38 = .ok (.getfield 20, 3) := by decide +kernel
theorem down_grow_41 : decode prog_48_method_21_code 41 = .ok (.arraylength, 1) := by decide +kernel
theorem down_grow_42 : decode prog_48_method_21_code 42 = .ok (.if_icmp .ne 40, 3) := by decide +kernel
theorem down_grow_82 : decode prog_48_method_21_code 82 = .ok (.aload_n 0, 1) := by decide +kernel
theorem down_grow_83 : decode prog_48_method_21_code 83 = .ok (.getfield 20, 3) := by decide +kernel
theorem down_grow_86 : decode prog_48_method_21_code 86 = .ok (.aload_n 0, 1) := by decide +kernel
theorem down_grow_87 : decode prog_48_method_21_code 87 = .ok (.getfield 61, 3) := by decide +kernel
theorem down_grow_90 : decode prog_48_method_21_code 90 = .ok (.aload_n 0, 1) := by decide +kernel
theorem down_grow_91 : decode prog_48_method_21_code 91 = .ok (.getfield 15, 3) := by decide +kernel
theorem down_grow_94 : decode prog_48_method_21_code 94 = .ok (.aastore, 1) := by decide +kernel
theorem down_grow_95 : decode prog_48_method_21_code 95 = .ok (.aload_n 0, 1) := by decide +kernel
theorem down_grow_96 : decode prog_48_method_21_code 96 = .ok (.getfield 24, 3) := by decide +kernel
theorem down_grow_99 : decode prog_48_method_21_code 99 = .ok (.aload_n 0, 1) := by decide +kernel
theorem down_grow_100 : decode prog_48_method_21_code 100 = .ok (.getfield 61, 3) := by decide +kernel
theorem down_grow_103 : decode prog_48_method_21_code 103 = .ok (.aload_n 0, 1) := by decide +kernel
theorem down_grow_104 : decode prog_48_method_21_code 104 = .ok (.getfield 36, 3) := by decide +kernel
theorem down_grow_107 : decode prog_48_method_21_code 107 = .ok (.iastore, 1) := by decide +kernel
theorem down_grow_108 : decode prog_48_method_21_code 108 = .ok (.aload_n 0, 1) := by decide +kernel
theorem down_grow_109 : decode prog_48_method_21_code 109 = .ok (.dup, 1) := by decide +kernel
theorem down_grow_110 : decode prog_48_method_21_code 110 = .ok (.getfield 61, 3) := by decide +kernel
theorem down_grow_113 : decode prog_48_method_21_code 113 = .ok (.iconst 1, 1) := by decide +kernel
theorem down_grow_114 : decode prog_48_method_21_code 114 = .ok (.iadd, 1) := by decide +kernel
theorem down_grow_115 : decode prog_48_method_21_code 115 = .ok (.putfield 61, 3) := by decide +kernel
theorem down_grow_118 : decode prog_48_method_21_code 118 = .ok (.aload_n 0, 1) := by decide +kernel
theorem down_grow_119 : decode prog_48_method_21_code 119 = .ok (.lload_n 3, 1) := by decide +kernel
theorem down_grow_120 : decode prog_48_method_21_code 120 = .ok (.putfield 32, 3) := by decide +kernel
theorem down_grow_123 : decode prog_48_method_21_code 123 = .ok (.aload_n 0, 1) := by decide +kernel
theorem down_grow_124 : decode prog_48_method_21_code 124 = .ok (.lload_n 1, 1) := by decide +kernel
theorem down_grow_125 : decode prog_48_method_21_code 125 = .ok (.lload_n 3, 1) := by decide +kernel
theorem down_grow_126 : decode prog_48_method_21_code 126 = .ok (.ldc2_w 183, 3) := by decide +kernel
theorem down_grow_129 : decode prog_48_method_21_code 129 = .ok (.invokestatic 129, 3) := by decide +kernel
theorem down_grow_132 : decode prog_48_method_21_code 132 = .ok (.invokestatic 64, 3) := by decide +kernel
theorem down_grow_135 : decode prog_48_method_21_code 135 = .ok (.l2i, 1) := by decide +kernel
theorem down_grow_136 : decode prog_48_method_21_code 136 = .ok (.newarray .byte, 2) := by decide +kernel
theorem down_grow_138 : decode prog_48_method_21_code 138 = .ok (.putfield 15, 3) := by decide +kernel
theorem down_grow_141 : decode prog_48_method_21_code 141 = .ok (.aload_n 0, 1) := by decide +kernel
theorem down_grow_142 : decode prog_48_method_21_code 142 = .ok (.iconst 0, 1) := by decide +kernel
theorem down_grow_143 : decode prog_48_method_21_code 143 = .ok (.putfield 36, 3) := by decide +kernel
theorem down_grow_146 : decode prog_48_method_21_code 146 = .ok (.return_, 1) := by decide +kernel
def Q_own_grow (Z : State)  (a mo mm tt rr : Nat) (F : Nat → Int32) (h0 : Heap) (n0 : Nat) (v : Option Value) (h : Heap) (L : List Loc) : Prop := v = none ∧ Fr n0 L ∧ own_Bl h0 h a ∧ own_V Z h a n0 (mm + 1) tt F mo
set_option maxRecDepth 65536 in
set_option maxHeartbeats 40000000 in
theorem own_grow (l : Launch) (Z : State) (a0 : Array Value) (hw : ∀ d ∈ tables_1, d.before a0 Z = true) (ws : List Jvm.Cond)  (a mo mm tt rr : Nat) (F : Nat → Int32) (h0 : Heap) (n0 : Nat) (V0 : own_V Z h0 a n0 mm tt F rr) (hmm : mm ≤ 3) (hmo : mo ≤ 1533) (htt : tt ≤ 1533) :
    MetFree l (⟨"com/example/kennel/kennel/Utf8Builder", "grow", "(J)V"⟩ : MethodName) (head1 (Jvm.Cond.code (⟨"com/example/kennel/kennel/Utf8Builder", "grow", "(J)V"⟩ : MethodName) prog_48_method_21_code 5 none :: ws) ({ frames := 1, cells := 1, slots := 1533, locals := 19 } : Room)) (fun aa U => aa = #[(.ref a), (.long (Int64.ofNat mo))] ∧ Z.Warmed39 U.vm ∧ U.heap = h0) (fun _ _ _ _ _ => True) (fun _ U o U' => ∃ v L, o = .returned v ∧ Q_own_grow Z a mo mm tt rr F h0 n0 v U'.heap L ∧ FrameEnd U o U' L ({ frames := 1, cells := 1, slots := 1533, locals := 19 } : Room).cells ({ frames := 1, cells := 1, slots := 1533, locals := 19 } : Room).slots) := by
  refine own_body (x := (⟨"com/example/kennel/kennel/Utf8Builder", "grow", "(J)V"⟩ : MethodName)) (maxL := 5) (as' := #[(.ref a), (.long (Int64.ofNat mo))]) (Q := Q_own_grow Z a mo mm tt rr F h0 n0) pn_own_grow #[.val (.ref a), .val (.long (Int64.ofNat mo)), .second, .unset, .unset] (fun m => by first | (simp [entryFrame, mkF, argsToLocals, Value.category]; done) | rfl) ?_
  intro p e s m below meth c T0 X0 hx hby hml hret hlk hown hnm hZ e0
  replace hml : c.maxLocals = 5 := hml
  replace hown : s.vm.findClass "com/example/kennel/kennel/Utf8Builder" = some m.cls := hown
  have N0 := Fr.nil n0
  obtain ⟨n, ck, cap, ln, ct, ea, la, fe, fl, ⟨O, Fe, Fl, Fc, P⟩, hn, ht, hF, hr⟩ := V0
  have hck := own_ckge P
  obtain ⟨P1, P2, P3, P4, P5, P6, P7, P8, P9, P10⟩ := id P
  have Bl0 := own_Bl_refl (h := h0) (a := a)
  refine own_st (G := T0.setTop (mkF m 1 #[.val (.ref a), .val (.long (Int64.ofNat mo)), .second, .unset, .unset] [(.ref a)])) (fun _ kk => XS.aloadN X0.here hx rfl (hb hby down_grow_0) rfl rfl kk) ?_
  obtain ⟨T1, X2, e3, st4⟩ := getF X0 hx hZ hown (host := "") (Or.inl (own_w hw 43 rfl)) Via.refl e0 (O).2.2.2.2.2.1 (g := (mkF m 1 #[.val (.ref a), .val (.long (Int64.ofNat mo)), .second, .unset, .unset] [(.ref a)])) rfl rfl (hb hby down_grow_1)
  refine own_st st4 ?_
  show own_Out _ _ _ _ (T1.setTop (mkF m 4 #[.val (.ref a), .val (.long (Int64.ofNat mo)), .second, .unset, .unset] [(.long (Int64.ofNat (own_sum ln n)))]))
  refine own_st (G := T1.setTop (mkF m 5 #[.val (.ref a), .val (.long (Int64.ofNat mo)), .second, .unset, .unset] [(.ref a), (.long (Int64.ofNat (own_sum ln n)))])) (fun _ kk => XS.aloadN X2.here hx rfl (hb hby down_grow_4) rfl rfl kk) ?_
  obtain ⟨T5, X6, e7, st8⟩ := getF X2 hx hZ hown (host := "") (Or.inl (own_w hw 32 rfl)) Via.refl e3 (O).2.2.2.2.2.2.1 (g := (mkF m 5 #[.val (.ref a), .val (.long (Int64.ofNat mo)), .second, .unset, .unset] [(.ref a), (.long (Int64.ofNat (own_sum ln n)))])) rfl rfl (hb hby down_grow_5)
  refine own_st st8 ?_
  show own_Out _ _ _ _ (T5.setTop (mkF m 8 #[.val (.ref a), .val (.long (Int64.ofNat mo)), .second, .unset, .unset] [(.int (Int32.ofNat (ln n))), (.long (Int64.ofNat (own_sum ln n)))]))
  refine own_st (G := T5.setTop (mkF m 9 #[.val (.ref a), .val (.long (Int64.ofNat mo)), .second, .unset, .unset] [(.long (Int32.ofNat (ln n)).toInt64), (.long (Int64.ofNat (own_sum ln n)))])) (fun _ kk => XS.i2l X6.here hx rfl (hb hby down_grow_8) rfl kk) ?_
  refine own_st (G := T5.setTop (mkF m 10 #[.val (.ref a), .val (.long (Int64.ofNat mo)), .second, .unset, .unset] [(.long ((Int64.ofNat (own_sum ln n)) + (Int32.ofNat (ln n)).toInt64))])) (fun _ kk => XS.ladd X6.here hx rfl (hb hby down_grow_9) rfl kk) ?_
  rw [show ((Int64.ofNat (own_sum ln n)) + (Int32.ofNat (ln n)).toInt64) = (Int64.ofNat tt) from own_tot ht (by omega)]
  refine own_st (G := T5.setTop (mkF m 11 #[.val (.ref a), .val (.long (Int64.ofNat mo)), .second, .val (.long (Int64.ofNat tt)), .second] [])) (fun _ kk => XS.lstoreN X6.here hx rfl (hb hby down_grow_10) rfl (l' := #[.val (.ref a), .val (.long (Int64.ofNat mo)), .second, .val (.long (Int64.ofNat tt)), .second]) rfl kk) ?_
  refine own_st (G := T5.setTop (mkF m 12 #[.val (.ref a), .val (.long (Int64.ofNat mo)), .second, .val (.long (Int64.ofNat tt)), .second] [(.long (Int64.ofNat tt))])) (fun _ kk => XS.lloadN X6.here hx rfl (hb hby down_grow_11) rfl kk) ?_
  refine own_st (G := T5.setTop (mkF m 13 #[.val (.ref a), .val (.long (Int64.ofNat mo)), .second, .val (.long (Int64.ofNat tt)), .second] [(.ref a), (.long (Int64.ofNat tt))])) (fun _ kk => XS.aloadN X6.here hx rfl (hb hby down_grow_12) rfl rfl kk) ?_
  obtain ⟨T9, X10, e11, st12⟩ := getF X6 hx hZ hown (host := "") (Or.inl (own_w hw 21 rfl)) Via.refl e7 (O).2.2.2.2.2.2.2 (g := (mkF m 13 #[.val (.ref a), .val (.long (Int64.ofNat mo)), .second, .val (.long (Int64.ofNat tt)), .second] [(.ref a), (.long (Int64.ofNat tt))])) rfl rfl (hb hby down_grow_13)
  refine own_st st12 ?_
  show own_Out _ _ _ _ (T9.setTop (mkF m 16 #[.val (.ref a), .val (.long (Int64.ofNat mo)), .second, .val (.long (Int64.ofNat tt)), .second] [(.int (1048576 : Int32)), (.long (Int64.ofNat tt))]))
  refine own_st (G := T9.setTop (mkF m 17 #[.val (.ref a), .val (.long (Int64.ofNat mo)), .second, .val (.long (Int64.ofNat tt)), .second] [(.long (1048576 : Int32).toInt64), (.long (Int64.ofNat tt))])) (fun _ kk => XS.i2l X10.here hx rfl (hb hby down_grow_16) rfl kk) ?_
  refine own_st (G := T9.setTop (mkF m 18 #[.val (.ref a), .val (.long (Int64.ofNat mo)), .second, .val (.long (Int64.ofNat tt)), .second] [(.int (BdW.cmpL (Int64.ofNat tt) (1048576 : Int32).toInt64))])) (fun _ kk => XT.lcmp X10.here hx rfl (hb hby down_grow_17) rfl kk) ?_
  have hk13 : ¬ ((1048576 : Int32).toInt64 < (Int64.ofNat tt)) := own_most (by omega)
  refine own_st (G := T9.setTop (mkF m 33 #[.val (.ref a), .val (.long (Int64.ofNat mo)), .second, .val (.long (Int64.ofNat tt)), .second] [])) (fun _ kk => XS.ifYes X10.here hx rfl (pc0 := 18) (pc' := 33) rfl (hb hby down_grow_18) rfl (XT.ll_le_t hk13) (by decide) (by decide) kk) ?_
  refine own_st (G := T9.setTop (mkF m 34 #[.val (.ref a), .val (.long (Int64.ofNat mo)), .second, .val (.long (Int64.ofNat tt)), .second] [(.ref a)])) (fun _ kk => XS.aloadN X10.here hx rfl (hb hby down_grow_33) rfl rfl kk) ?_
  obtain ⟨T14, X15, e16, st17⟩ := getF X10 hx hZ hown (host := "") (Or.inl (own_w hw 90 rfl)) Via.refl e11 (O).2.2.2.2.1 (g := (mkF m 34 #[.val (.ref a), .val (.long (Int64.ofNat mo)), .second, .val (.long (Int64.ofNat tt)), .second] [(.ref a)])) rfl rfl (hb hby down_grow_34)
  refine own_st st17 ?_
  show own_Out _ _ _ _ (T14.setTop (mkF m 37 #[.val (.ref a), .val (.long (Int64.ofNat mo)), .second, .val (.long (Int64.ofNat tt)), .second] [(.int (Int32.ofNat n))]))
  refine own_st (G := T14.setTop (mkF m 38 #[.val (.ref a), .val (.long (Int64.ofNat mo)), .second, .val (.long (Int64.ofNat tt)), .second] [(.ref a), (.int (Int32.ofNat n))])) (fun _ kk => XS.aloadN X15.here hx rfl (hb hby down_grow_37) rfl rfl kk) ?_
  obtain ⟨T18, X19, e20, st21⟩ := getF X15 hx hZ hown (host := "") (Or.inl (own_w hw 16 rfl)) Via.refl e16 (O).2.2.1 (g := (mkF m 38 #[.val (.ref a), .val (.long (Int64.ofNat mo)), .second, .val (.long (Int64.ofNat tt)), .second] [(.ref a), (.int (Int32.ofNat n))])) rfl rfl (hb hby down_grow_38)
  refine own_st st21 ?_
  show own_Out _ _ _ _ (T18.setTop (mkF m 41 #[.val (.ref a), .val (.long (Int64.ofNat mo)), .second, .val (.long (Int64.ofNat tt)), .second] [(.ref ea), (.int (Int32.ofNat n))]))
  refine own_lenR X19 hx hZ e20 Fe (z := (4 : Int32)) rfl (hb hby down_grow_41) ?_
  show own_Out _ _ _ _ (T18.setTop (mkF m 42 #[.val (.ref a), .val (.long (Int64.ofNat mo)), .second, .val (.long (Int64.ofNat tt)), .second] [(.int (4 : Int32)), (.int (Int32.ofNat n))]))
  have hk22 : ¬ ((Int32.ofNat n) = (4 : Int32)) := own_ne4 (by omega)
  refine own_st (G := T18.setTop (mkF m 82 #[.val (.ref a), .val (.long (Int64.ofNat mo)), .second, .val (.long (Int64.ofNat tt)), .second] [])) (fun _ kk => XS.icmpYes X19.here hx rfl (pc0 := 42) (pc' := 82) rfl (hb hby down_grow_42) rfl (XT.ii_ne_t hk22) (by decide) (by decide) kk) ?_
  refine own_st (G := T18.setTop (mkF m 83 #[.val (.ref a), .val (.long (Int64.ofNat mo)), .second, .val (.long (Int64.ofNat tt)), .second] [(.ref a)])) (fun _ kk => XS.aloadN X19.here hx rfl (hb hby down_grow_82) rfl rfl kk) ?_
  obtain ⟨T23, X24, e25, st26⟩ := getF X19 hx hZ hown (host := "") (Or.inl (own_w hw 16 rfl)) Via.refl e20 (O).2.2.1 (g := (mkF m 83 #[.val (.ref a), .val (.long (Int64.ofNat mo)), .second, .val (.long (Int64.ofNat tt)), .second] [(.ref a)])) rfl rfl (hb hby down_grow_83)
  refine own_st st26 ?_
  show own_Out _ _ _ _ (T23.setTop (mkF m 86 #[.val (.ref a), .val (.long (Int64.ofNat mo)), .second, .val (.long (Int64.ofNat tt)), .second] [(.ref ea)]))
  refine own_st (G := T23.setTop (mkF m 87 #[.val (.ref a), .val (.long (Int64.ofNat mo)), .second, .val (.long (Int64.ofNat tt)), .second] [(.ref a), (.ref ea)])) (fun _ kk => XS.aloadN X24.here hx rfl (hb hby down_grow_86) rfl rfl kk) ?_
  obtain ⟨T27, X28, e29, st30⟩ := getF X24 hx hZ hown (host := "") (Or.inl (own_w hw 90 rfl)) Via.refl e25 (O).2.2.2.2.1 (g := (mkF m 87 #[.val (.ref a), .val (.long (Int64.ofNat mo)), .second, .val (.long (Int64.ofNat tt)), .second] [(.ref a), (.ref ea)])) rfl rfl (hb hby down_grow_87)
  refine own_st st30 ?_
  show own_Out _ _ _ _ (T27.setTop (mkF m 90 #[.val (.ref a), .val (.long (Int64.ofNat mo)), .second, .val (.long (Int64.ofNat tt)), .second] [(.int (Int32.ofNat n)), (.ref ea)]))
  refine own_st (G := T27.setTop (mkF m 91 #[.val (.ref a), .val (.long (Int64.ofNat mo)), .second, .val (.long (Int64.ofNat tt)), .second] [(.ref a), (.int (Int32.ofNat n)), (.ref ea)])) (fun _ kk => XS.aloadN X28.here hx rfl (hb hby down_grow_90) rfl rfl kk) ?_
  obtain ⟨T31, X32, e33, st34⟩ := getF X28 hx hZ hown (host := "") (Or.inl (own_w hw 12 rfl)) Via.refl e29 (O).2.1 (g := (mkF m 91 #[.val (.ref a), .val (.long (Int64.ofNat mo)), .second, .val (.long (Int64.ofNat tt)), .second] [(.ref a), (.int (Int32.ofNat n)), (.ref ea)])) rfl rfl (hb hby down_grow_91)
  refine own_st st34 ?_
  show own_Out _ _ _ _ (T31.setTop (mkF m 94 #[.val (.ref a), .val (.long (Int64.ofNat mo)), .second, .val (.long (Int64.ofNat tt)), .second] [(.ref (ck n)), (.int (Int32.ofNat n)), (.ref ea)]))
  refine own_aastore X32 hx hZ e33 Fe (Or.inr ⟨_, _, _, rfl, (Fc n (Nat.le_refl n))⟩) (j := (Int32.ofNat n)) (i := n) (own_ixn (n := n) (by omega)).1 (own_ixn (n := n) (by omega)).2 (by omega) (hb hby down_grow_94) ?_
  intro T35 h36 X37 e38 W39 F40
  show own_Out _ _ _ _ (T35.setTop (mkF m 95 #[.val (.ref a), .val (.long (Int64.ofNat mo)), .second, .val (.long (Int64.ofNat tt)), .second] []))
  have N41 := Fr.snoc X37 N0 (by have := hck n (Nat.le_refl n); omega)
  have Bl42 := own_Bl_wr Bl0 W39 (by have := hck n (Nat.le_refl n); omega)
  have O43 := own_B_keep (Keep.of_wr W39) (ninS (own_neA (by have := hck n (Nat.le_refl n); omega)) nin0) O
  have F44 := own_AI_keep Fl (Keep.of_wr W39) (ninS (own_neA (by have := hck n (Nat.le_refl n); omega)) nin0)
  have Fc45 : ∀ i, i ≤ n → own_AB Z h36 (ck i) (cap i) (ct i) := fun i hi => own_AB_keep (Fc i hi) (Keep.of_wr W39) (ninS (own_neA (by have := hck i hi; omega)) nin0)
  refine own_st (G := T35.setTop (mkF m 96 #[.val (.ref a), .val (.long (Int64.ofNat mo)), .second, .val (.long (Int64.ofNat tt)), .second] [(.ref a)])) (fun _ kk => XS.aloadN X37.here hx rfl (hb hby down_grow_95) rfl rfl kk) ?_
  obtain ⟨T46, X47, e48, st49⟩ := getF X37 hx hZ hown (host := "") (Or.inl (own_w hw 19 rfl)) Via.refl e38 (O43).2.2.2.1 (g := (mkF m 96 #[.val (.ref a), .val (.long (Int64.ofNat mo)), .second, .val (.long (Int64.ofNat tt)), .second] [(.ref a)])) rfl rfl (hb hby down_grow_96)
  refine own_st st49 ?_
  show own_Out _ _ _ _ (T46.setTop (mkF m 99 #[.val (.ref a), .val (.long (Int64.ofNat mo)), .second, .val (.long (Int64.ofNat tt)), .second] [(.ref la)]))
  refine own_st (G := T46.setTop (mkF m 100 #[.val (.ref a), .val (.long (Int64.ofNat mo)), .second, .val (.long (Int64.ofNat tt)), .second] [(.ref a), (.ref la)])) (fun _ kk => XS.aloadN X47.here hx rfl (hb hby down_grow_99) rfl rfl kk) ?_
  obtain ⟨T50, X51, e52, st53⟩ := getF X47 hx hZ hown (host := "") (Or.inl (own_w hw 90 rfl)) Via.refl e48 (O43).2.2.2.2.1 (g := (mkF m 100 #[.val (.ref a), .val (.long (Int64.ofNat mo)), .second, .val (.long (Int64.ofNat tt)), .second] [(.ref a), (.ref la)])) rfl rfl (hb hby down_grow_100)
  refine own_st st53 ?_
  show own_Out _ _ _ _ (T50.setTop (mkF m 103 #[.val (.ref a), .val (.long (Int64.ofNat mo)), .second, .val (.long (Int64.ofNat tt)), .second] [(.int (Int32.ofNat n)), (.ref la)]))
  refine own_st (G := T50.setTop (mkF m 104 #[.val (.ref a), .val (.long (Int64.ofNat mo)), .second, .val (.long (Int64.ofNat tt)), .second] [(.ref a), (.int (Int32.ofNat n)), (.ref la)])) (fun _ kk => XS.aloadN X51.here hx rfl (hb hby down_grow_103) rfl rfl kk) ?_
  obtain ⟨T54, X55, e56, st57⟩ := getF X51 hx hZ hown (host := "") (Or.inl (own_w hw 32 rfl)) Via.refl e52 (O43).2.2.2.2.2.2.1 (g := (mkF m 104 #[.val (.ref a), .val (.long (Int64.ofNat mo)), .second, .val (.long (Int64.ofNat tt)), .second] [(.ref a), (.int (Int32.ofNat n)), (.ref la)])) rfl rfl (hb hby down_grow_104)
  refine own_st st57 ?_
  show own_Out _ _ _ _ (T54.setTop (mkF m 107 #[.val (.ref a), .val (.long (Int64.ofNat mo)), .second, .val (.long (Int64.ofNat tt)), .second] [(.int (Int32.ofNat (ln n))), (.int (Int32.ofNat n)), (.ref la)]))
  refine own_iastore X55 hx hZ e56 F44 (j := (Int32.ofNat n)) (i := n) (own_ixn (n := n) (by omega)).1 (own_ixn (n := n) (by omega)).2 (by omega) (hb hby down_grow_107) ?_
  intro T58 h59 X60 e61 W62 F63
  show own_Out _ _ _ _ (T58.setTop (mkF m 108 #[.val (.ref a), .val (.long (Int64.ofNat mo)), .second, .val (.long (Int64.ofNat tt)), .second] []))
  have N64 := Fr.snoc X60 N41 (by have := hck n (Nat.le_refl n); omega)
  have Bl65 := own_Bl_wr Bl42 W62 (by have := hck n (Nat.le_refl n); omega)
  have O66 := own_B_keep (Keep.of_wr W62) (ninS (own_neA (by have := hck n (Nat.le_refl n); omega)) nin0) O43
  have F67 := own_AR_keep F40 (Keep.of_wr W62) (ninS (own_neA (by have := hck n (Nat.le_refl n); omega)) nin0)
  have Fc68 : ∀ i, i ≤ n → own_AB Z h59 (ck i) (cap i) (ct i) := fun i hi => own_AB_keep (Fc45 i hi) (Keep.of_wr W62) (ninS (own_neA (by have := hck i hi; omega)) nin0)
  refine own_st (G := T58.setTop (mkF m 109 #[.val (.ref a), .val (.long (Int64.ofNat mo)), .second, .val (.long (Int64.ofNat tt)), .second] [(.ref a)])) (fun _ kk => XS.aloadN X60.here hx rfl (hb hby down_grow_108) rfl rfl kk) ?_
  refine own_st (G := T58.setTop (mkF m 110 #[.val (.ref a), .val (.long (Int64.ofNat mo)), .second, .val (.long (Int64.ofNat tt)), .second] [(.ref a), (.ref a)])) (fun _ kk => XS.dup X60.here hx rfl (hb hby down_grow_109) rfl rfl kk) ?_
  obtain ⟨T69, X70, e71, st72⟩ := getF X60 hx hZ hown (host := "") (Or.inl (own_w hw 90 rfl)) Via.refl e61 (O66).2.2.2.2.1 (g := (mkF m 110 #[.val (.ref a), .val (.long (Int64.ofNat mo)), .second, .val (.long (Int64.ofNat tt)), .second] [(.ref a), (.ref a)])) rfl rfl (hb hby down_grow_110)
  refine own_st st72 ?_
  show own_Out _ _ _ _ (T69.setTop (mkF m 113 #[.val (.ref a), .val (.long (Int64.ofNat mo)), .second, .val (.long (Int64.ofNat tt)), .second] [(.int (Int32.ofNat n)), (.ref a)]))
  refine own_st (G := T69.setTop (mkF m 114 #[.val (.ref a), .val (.long (Int64.ofNat mo)), .second, .val (.long (Int64.ofNat tt)), .second] [(.int (1 : Int32)), (.int (Int32.ofNat n)), (.ref a)])) (fun _ kk => XT.iconstV X70.here hx rfl (1 : Int32) (hb hby down_grow_113) (by decide) kk) ?_
  refine own_st (G := T69.setTop (mkF m 115 #[.val (.ref a), .val (.long (Int64.ofNat mo)), .second, .val (.long (Int64.ofNat tt)), .second] [(.int ((Int32.ofNat n) + (1 : Int32))), (.ref a)])) (fun _ kk => XS.iadd X70.here hx rfl (hb hby down_grow_114) rfl kk) ?_
  rw [show ((Int32.ofNat n) + (1 : Int32)) = (Int32.ofNat (n + 1)) from own_addI (y := 1) (by omega)]
  obtain ⟨T73, h74, X75, e76, W77, st78⟩ := putF X70 hx hZ hown (host := "") (Or.inl (own_w hw 90 rfl)) Via.refl e71 (O66).2.2.2.2.1 (O66).1 (Or.inl (own_w hw 91 rfl)) (own_w hw 3 rfl) (ty := .int) (by decide) rfl rfl (g := (mkF m 115 #[.val (.ref a), .val (.long (Int64.ofNat mo)), .second, .val (.long (Int64.ofNat tt)), .second] [(.int (Int32.ofNat (n + 1))), (.ref a)])) rfl rfl (hb hby down_grow_115)
  refine own_st st78 ?_
  show own_Out _ _ _ _ (T73.setTop (mkF m 118 #[.val (.ref a), .val (.long (Int64.ofNat mo)), .second, .val (.long (Int64.ofNat tt)), .second] []))
  have O79 : own_B Z h74 a (.ref (ck n)) (.ref ea) (.ref la) (Int32.ofNat (n + 1)) (Int64.ofNat (own_sum ln n)) (Int32.ofNat (ln n)) (1048576 : Int32) := own_B_earlierCount hw W77 O66
  have N80 := Fr.snoc X75 N64 P1
  have Bl81 := own_Bl_wr Bl65 W77 (by have := hck n (Nat.le_refl n); omega)
  have F82 := own_AR_keep F67 (Keep.of_wr W77) (ninS (own_neA (by have := hck n (Nat.le_refl n); omega)) nin0)
  have F83 := own_AI_keep F63 (Keep.of_wr W77) (ninS (own_neA (by have := hck n (Nat.le_refl n); omega)) nin0)
  have Fc84 : ∀ i, i ≤ n → own_AB Z h74 (ck i) (cap i) (ct i) := fun i hi => own_AB_keep (Fc68 i hi) (Keep.of_wr W77) (ninS (own_neA (by have := hck i hi; omega)) nin0)
  refine own_st (G := T73.setTop (mkF m 119 #[.val (.ref a), .val (.long (Int64.ofNat mo)), .second, .val (.long (Int64.ofNat tt)), .second] [(.ref a)])) (fun _ kk => XS.aloadN X75.here hx rfl (hb hby down_grow_118) rfl rfl kk) ?_
  refine own_st (G := T73.setTop (mkF m 120 #[.val (.ref a), .val (.long (Int64.ofNat mo)), .second, .val (.long (Int64.ofNat tt)), .second] [(.long (Int64.ofNat tt)), (.ref a)])) (fun _ kk => XS.lloadN X75.here hx rfl (hb hby down_grow_119) rfl kk) ?_
  obtain ⟨T85, h86, X87, e88, W89, st90⟩ := putF X75 hx hZ hown (host := "") (Or.inl (own_w hw 43 rfl)) Via.refl e76 (O79).2.2.2.2.2.1 (O79).1 (Or.inl (own_w hw 44 rfl)) (own_w hw 3 rfl) (ty := .long) (by decide) rfl rfl (g := (mkF m 120 #[.val (.ref a), .val (.long (Int64.ofNat mo)), .second, .val (.long (Int64.ofNat tt)), .second] [(.long (Int64.ofNat tt)), (.ref a)])) rfl rfl (hb hby down_grow_120)
  refine own_st st90 ?_
  show own_Out _ _ _ _ (T85.setTop (mkF m 123 #[.val (.ref a), .val (.long (Int64.ofNat mo)), .second, .val (.long (Int64.ofNat tt)), .second] []))
  have O91 : own_B Z h86 a (.ref (ck n)) (.ref ea) (.ref la) (Int32.ofNat (n + 1)) (Int64.ofNat tt) (Int32.ofNat (ln n)) (1048576 : Int32) := own_B_before hw W89 O79
  have N92 := Fr.snoc X87 N80 P1
  have Bl93 := own_Bl_wr Bl81 W89 (by have := hck n (Nat.le_refl n); omega)
  have F94 := own_AR_keep F82 (Keep.of_wr W89) (ninS (own_neA (by have := hck n (Nat.le_refl n); omega)) nin0)
  have F95 := own_AI_keep F83 (Keep.of_wr W89) (ninS (own_neA (by have := hck n (Nat.le_refl n); omega)) nin0)
  have Fc96 : ∀ i, i ≤ n → own_AB Z h86 (ck i) (cap i) (ct i) := fun i hi => own_AB_keep (Fc84 i hi) (Keep.of_wr W89) (ninS (own_neA (by have := hck i hi; omega)) nin0)
  refine own_st (G := T85.setTop (mkF m 124 #[.val (.ref a), .val (.long (Int64.ofNat mo)), .second, .val (.long (Int64.ofNat tt)), .second] [(.ref a)])) (fun _ kk => XS.aloadN X87.here hx rfl (hb hby down_grow_123) rfl rfl kk) ?_
  refine own_st (G := T85.setTop (mkF m 125 #[.val (.ref a), .val (.long (Int64.ofNat mo)), .second, .val (.long (Int64.ofNat tt)), .second] [(.long (Int64.ofNat mo)), (.ref a)])) (fun _ kk => XS.lloadN X87.here hx rfl (hb hby down_grow_124) rfl kk) ?_
  refine own_st (G := T85.setTop (mkF m 126 #[.val (.ref a), .val (.long (Int64.ofNat mo)), .second, .val (.long (Int64.ofNat tt)), .second] [(.long (Int64.ofNat tt)), (.long (Int64.ofNat mo)), (.ref a)])) (fun _ kk => XS.lloadN X87.here hx rfl (hb hby down_grow_125) rfl kk) ?_
  refine own_st (G := T85.setTop (mkF m 129 #[.val (.ref a), .val (.long (Int64.ofNat mo)), .second, .val (.long (Int64.ofNat tt)), .second] [(.long (65536 : Int64)), (.long (Int64.ofNat tt)), (.long (Int64.ofNat mo)), (.ref a)])) (fun _ kk => X87.ldc2Long hx hown (mvT hZ (own_w hw 93 rfl)) (g := (mkF m 126 #[.val (.ref a), .val (.long (Int64.ofNat mo)), .second, .val (.long (Int64.ofNat tt)), .second] [(.long (Int64.ofNat tt)), (.long (Int64.ofNat mo)), (.ref a)])) rfl (hb hby down_grow_126) _ kk) ?_
  refine own_callS X87 hx hZ (y := (⟨"java/lang/Math", "min", "(JJ)J"⟩ : MethodName)) (as' := [(.long (Int64.ofNat tt)), (.long (65536 : Int64))]) hown (own_w hw 94 rfl) (own_w hw 95 rfl) (own_w hw 78 rfl) (own_w hw 96 rfl) (by decide) (own_wminJ l Z a0 hw [] (Int64.ofNat tt) (65536 : Int64) h86 n0) 3 (by decide) (by decide) (by decide) (by decide) (rest := [(.long (Int64.ofNat mo)), (.ref a)]) (by rw [hml]; rfl) (lenOf (by decide : parseMethodDescriptor "(JJ)J" = some ⟨[.long, .long], some (.long)⟩) rfl) rfl (Nat.le_of_eq rfl) (hb hby down_grow_129) e88 ?_
  intro T99 L100 v102 X101 hQ
  obtain ⟨rfl, rfl, eq97⟩ := hQ
  show own_Out _ _ _ _ (T99.setTop (mkF m 132 #[.val (.ref a), .val (.long (Int64.ofNat mo)), .second, .val (.long (Int64.ofNat tt)), .second] [(.long (own_minJ (Int64.ofNat tt) (65536 : Int64))), (.long (Int64.ofNat mo)), (.ref a)]))
  have N98 := Fr.app N92 (Fr.nil n0)
  rw [show (own_minJ (Int64.ofNat tt) (65536 : Int64)) = (Int64.ofNat tt) from (own_minJ_nat (y := 65536) (by omega) (by decide)).trans (congrArg Int64.ofNat (by omega))]
  refine own_callS X101 hx hZ (y := (⟨"java/lang/Math", "max", "(JJ)J"⟩ : MethodName)) (as' := [(.long (Int64.ofNat mo)), (.long (Int64.ofNat tt))]) hown (own_w hw 97 rfl) (own_w hw 98 rfl) (own_w hw 78 rfl) (own_w hw 99 rfl) (by decide) (own_wmaxJ l Z a0 hw [] (Int64.ofNat mo) (Int64.ofNat tt) h86 n0) 1 (by decide) (by decide) (by decide) (by decide) (rest := [(.ref a)]) (by rw [hml]; rfl) (lenOf (by decide : parseMethodDescriptor "(JJ)J" = some ⟨[.long, .long], some (.long)⟩) rfl) rfl (Nat.le_of_eq rfl) (hb hby down_grow_132) eq97 ?_
  intro T105 L106 v108 X107 hQ
  obtain ⟨rfl, rfl, eq103⟩ := hQ
  show own_Out _ _ _ _ (T105.setTop (mkF m 135 #[.val (.ref a), .val (.long (Int64.ofNat mo)), .second, .val (.long (Int64.ofNat tt)), .second] [(.long (own_maxJ (Int64.ofNat mo) (Int64.ofNat tt))), (.ref a)]))
  have N104 := Fr.app N98 (Fr.nil n0)
  rw [show (own_maxJ (Int64.ofNat mo) (Int64.ofNat tt)) = (Int64.ofNat (max mo tt)) from own_maxJ_nat (by omega) (by omega)]
  refine own_st (G := T105.setTop (mkF m 136 #[.val (.ref a), .val (.long (Int64.ofNat mo)), .second, .val (.long (Int64.ofNat tt)), .second] [(.int (Int64.ofNat (max mo tt)).toInt32), (.ref a)])) (fun _ kk => XS.l2i X107.here hx rfl (hb hby down_grow_135) rfl kk) ?_
  rw [show (Int64.ofNat (max mo tt)).toInt32 = (Int32.ofNat (max mo tt)) from own_i32 (by omega)]
  obtain ⟨T109, h110, cA111, X112, e113, E114, A115, EX120, st116⟩ := newPE X107 hx hZ (own_w hw 0 rfl) eq103 (g := (mkF m 136 #[.val (.ref a), .val (.long (Int64.ofNat mo)), .second, .val (.long (Int64.ofNat tt)), .second] [(.int (Int32.ofNat (max mo tt))), (.ref a)])) rfl (hb hby down_grow_136) rfl (own_ixn (n := max mo tt) (by omega)).1 (cap := 1533) (Nat.le_trans (Nat.le_of_eq (own_ixn (n := max mo tt) (by omega)).2) (by omega)) (by decide) (by decide) (by decide) (ad := "[B") rfl
  obtain ⟨a117, g118⟩ : ∃ z, z = h86.size := ⟨_, rfl⟩
  rw [← g118] at A115 st116 EX120
  refine own_st st116 ?_
  show own_Out _ _ _ _ (T109.setTop (mkF m 138 #[.val (.ref a), .val (.long (Int64.ofNat mo)), .second, .val (.long (Int64.ofNat tt)), .second] [(.ref a117), (.ref a)]))
  have hlt : ∀ i, i ≤ n → ck i < a117 := fun i hi => by rw [g118]; exact own_AB_lt (Fc96 i hi)
  have hla : la < a117 := by rw [g118]; exact own_AI_lt F95
  have Bl121 := own_Bl_ext Bl93 E114
  have O122 := own_B_ext E114 O91
  have F123 := own_AR_ext F94 E114
  have F124 := own_AI_ext F95 E114
  have Fc125 : ∀ i, i ≤ n → own_AB Z h110 (ck i) (cap i) (ct i) := fun i hi => own_AB_ext (Fc96 i hi) E114
  have Fn126 := own_AB_new A115 EX120 (own_ixn (n := max mo tt) (by omega)).1 (own_ixn (n := max mo tt) (by omega)).2
  have hna : a < a117 := by omega
  obtain ⟨T127, h128, X129, e130, W131, st132⟩ := putF X112 hx hZ hown (host := "") (Or.inl (own_w hw 12 rfl)) Via.refl e113 (O122).2.1 (O122).1 (Or.inl (own_w hw 13 rfl)) (own_w hw 3 rfl) (ty := .array (.byte)) (by decide) rfl rfl (g := (mkF m 138 #[.val (.ref a), .val (.long (Int64.ofNat mo)), .second, .val (.long (Int64.ofNat tt)), .second] [(.ref a117), (.ref a)])) rfl rfl (hb hby down_grow_138)
  refine own_st st132 ?_
  show own_Out _ _ _ _ (T127.setTop (mkF m 141 #[.val (.ref a), .val (.long (Int64.ofNat mo)), .second, .val (.long (Int64.ofNat tt)), .second] []))
  have O133 : own_B Z h128 a (.ref a117) (.ref ea) (.ref la) (Int32.ofNat (n + 1)) (Int64.ofNat tt) (Int32.ofNat (ln n)) (1048576 : Int32) := own_B_bytes hw W131 O122
  have N134 := Fr.snoc X129 N104 P1
  have Bl135 := own_Bl_wr Bl121 W131 (by have := hck n (Nat.le_refl n); omega)
  have F136 := own_AR_keep F123 (Keep.of_wr W131) (ninS (own_neA (by have := hck n (Nat.le_refl n); omega)) nin0)
  have F137 := own_AI_keep F124 (Keep.of_wr W131) (ninS (own_neA (by have := hck n (Nat.le_refl n); omega)) nin0)
  have Fc138 : ∀ i, i ≤ n → own_AB Z h128 (ck i) (cap i) (ct i) := fun i hi => own_AB_keep (Fc125 i hi) (Keep.of_wr W131) (ninS (own_neA (by have := hck i hi; omega)) nin0)
  have F139 := own_AB_keep Fn126 (Keep.of_wr W131) (ninS (own_neA (by omega)) nin0)
  refine own_st (G := T127.setTop (mkF m 142 #[.val (.ref a), .val (.long (Int64.ofNat mo)), .second, .val (.long (Int64.ofNat tt)), .second] [(.ref a)])) (fun _ kk => XS.aloadN X129.here hx rfl (hb hby down_grow_141) rfl rfl kk) ?_
  refine own_st (G := T127.setTop (mkF m 143 #[.val (.ref a), .val (.long (Int64.ofNat mo)), .second, .val (.long (Int64.ofNat tt)), .second] [(.int (0 : Int32)), (.ref a)])) (fun _ kk => XT.iconstV X129.here hx rfl (0 : Int32) (hb hby down_grow_142) (by decide) kk) ?_
  obtain ⟨T140, h141, X142, e143, W144, st145⟩ := putF X129 hx hZ hown (host := "") (Or.inl (own_w hw 32 rfl)) Via.refl e130 (O133).2.2.2.2.2.2.1 (O133).1 (Or.inl (own_w hw 33 rfl)) (own_w hw 3 rfl) (ty := .int) (by decide) rfl rfl (g := (mkF m 143 #[.val (.ref a), .val (.long (Int64.ofNat mo)), .second, .val (.long (Int64.ofNat tt)), .second] [(.int (0 : Int32)), (.ref a)])) rfl rfl (hb hby down_grow_143)
  refine own_st st145 ?_
  show own_Out _ _ _ _ (T140.setTop (mkF m 146 #[.val (.ref a), .val (.long (Int64.ofNat mo)), .second, .val (.long (Int64.ofNat tt)), .second] []))
  have O146 : own_B Z h141 a (.ref a117) (.ref ea) (.ref la) (Int32.ofNat (n + 1)) (Int64.ofNat tt) (0 : Int32) (1048576 : Int32) := own_B_length hw W144 O133
  have N147 := Fr.snoc X142 N134 P1
  have Bl148 := own_Bl_wr Bl135 W144 (by have := hck n (Nat.le_refl n); omega)
  have F149 := own_AR_keep F136 (Keep.of_wr W144) (ninS (own_neA (by have := hck n (Nat.le_refl n); omega)) nin0)
  have F150 := own_AI_keep F137 (Keep.of_wr W144) (ninS (own_neA (by have := hck n (Nat.le_refl n); omega)) nin0)
  have Fc151 : ∀ i, i ≤ n → own_AB Z h141 (ck i) (cap i) (ct i) := fun i hi => own_AB_keep (Fc138 i hi) (Keep.of_wr W144) (ninS (own_neA (by have := hck i hi; omega)) nin0)
  have F152 := own_AB_keep F139 (Keep.of_wr W144) (ninS (own_neA (by omega)) nin0)
  refine own_ret0 X142 hx hret hlk (hb hby down_grow_146) (by decide) (by decide) ?_
  rw [e143]
  exact ⟨rfl, N147, Bl148, own_V_grow O146 F149 F150 Fc151 F152 P hn ht hF hmo htt hlt hla⟩
theorem pn_own_ens : plainFor (⟨"com/example/kennel/kennel/Utf8Builder", "ensure", "(J)V"⟩ : MethodName) = true := by first | exact plainFor_of_name (by first | (simp [plainName, overriddenIn]; done) | decide +kernel) | decide +kernel
theorem down_ens_0 : decode prog_48_method_20_code 0 = .ok (.aload_n 0, 1) := by decide +kernel
theorem down_ens_1 : decode prog_48_method_20_code 1 = .ok (.getfield 15, 3) := by decide +kernel
theorem down_ens_4 : decode prog_48_method_20_code 4 = .ok (.arraylength, 1) := by decide +kernel
theorem down_ens_5 : decode prog_48_method_20_code 5 = .ok (.aload_n 0, 1) := by decide +kernel
theorem down_ens_6 : decode prog_48_method_20_code 6 = .ok (.getfield 36, 3) := by decide +kernel
theorem down_ens_9 : decode prog_48_method_20_code 9 = .ok (.isub, 1) := by decide +kernel
theorem down_ens_10 : decode prog_48_method_20_code 10 = .ok (.i2l, 1) := by decide +kernel
theorem down_ens_11 : decode prog_48_method_20_code 11 = .ok (.lload_n 1, 1) := by decide +kernel
theorem down_ens_12 : decode prog_48_method_20_code 12 = .ok (.lcmp, 1) := by decide +kernel
theorem down_ens_13 : decode prog_48_method_20_code 13 = .ok (.ifCond .ge 8, 3) := by decide +kernel
theorem down_ens_16 : decode prog_48_method_20_code 16 = .ok (.aload_n 0, 1) := by decide +kernel
theorem down_ens_17 : decode prog_48_method_20_code 17 = .ok (.lload_n 1, 1) := by decide +kernel
theorem down_ens_18 : decode prog_48_method_20_code 18 = .ok (.invokevirtual 70, 3) := by decide +kernel
theorem down_ens_21 : decode prog_48_method_20_code 21 = .ok (.return_, 1) := by decide +kernel
def Q_own_ens (Z : State)  (a mo mm tt rr : Nat) (F : Nat → Int32) (h0 : Heap) (n0 : Nat) (v : Option Value) (h : Heap) (L : List Loc) : Prop := v = none ∧ Fr n0 L ∧ own_Bl h0 h a ∧ own_V Z h a n0 (mm + 1) tt F mo
set_option maxRecDepth 65536 in
set_option maxHeartbeats 40000000 in
theorem own_ens (l : Launch) (Z : State) (a0 : Array Value) (hw : ∀ d ∈ tables_1, d.before a0 Z = true) (ws : List Jvm.Cond)  (a mo mm tt rr : Nat) (F : Nat → Int32) (h0 : Heap) (n0 : Nat) (V0 : own_V Z h0 a n0 mm tt F rr) (hmm : mm ≤ 3) (hmo : mo ≤ 1533) (htt : tt ≤ 1533) :
    MetFree l (⟨"com/example/kennel/kennel/Utf8Builder", "ensure", "(J)V"⟩ : MethodName) (head1 (Jvm.Cond.code (⟨"com/example/kennel/kennel/Utf8Builder", "ensure", "(J)V"⟩ : MethodName) prog_48_method_20_code 3 none :: ws) ({ frames := 2, cells := 1, slots := 1533, locals := 35 } : Room)) (fun aa U => aa = #[(.ref a), (.long (Int64.ofNat mo))] ∧ Z.Warmed39 U.vm ∧ U.heap = h0) (fun _ _ _ _ _ => True) (fun _ U o U' => ∃ v L, o = .returned v ∧ Q_own_ens Z a mo mm tt rr F h0 n0 v U'.heap L ∧ FrameEnd U o U' L ({ frames := 2, cells := 1, slots := 1533, locals := 35 } : Room).cells ({ frames := 2, cells := 1, slots := 1533, locals := 35 } : Room).slots) := by
  refine own_body (x := (⟨"com/example/kennel/kennel/Utf8Builder", "ensure", "(J)V"⟩ : MethodName)) (maxL := 3) (as' := #[(.ref a), (.long (Int64.ofNat mo))]) (Q := Q_own_ens Z a mo mm tt rr F h0 n0) pn_own_ens #[.val (.ref a), .val (.long (Int64.ofNat mo)), .second] (fun m => by first | (simp [entryFrame, mkF, argsToLocals, Value.category]; done) | rfl) ?_
  intro p e s m below meth c T0 X0 hx hby hml hret hlk hown hnm hZ e0
  replace hml : c.maxLocals = 3 := hml
  replace hown : s.vm.findClass "com/example/kennel/kennel/Utf8Builder" = some m.cls := hown
  have N0 := Fr.nil n0
  have V1 := V0
  obtain ⟨n, ck, cap, ln, ct, ea, la, fe, fl, ⟨O, Fe, Fl, Fc, P⟩, hn, ht, hF, hr⟩ := V0
  have hck := own_ckge P
  obtain ⟨P1, P2, P3, P4, P5, P6, P7, P8, P9, P10⟩ := id P
  have Bl0 := own_Bl_refl (h := h0) (a := a)
  refine own_st (G := T0.setTop (mkF m 1 #[.val (.ref a), .val (.long (Int64.ofNat mo)), .second] [(.ref a)])) (fun _ kk => XS.aloadN X0.here hx rfl (hb hby down_ens_0) rfl rfl kk) ?_
  obtain ⟨T1, X2, e3, st4⟩ := getF X0 hx hZ hown (host := "") (Or.inl (own_w hw 12 rfl)) Via.refl e0 (O).2.1 (g := (mkF m 1 #[.val (.ref a), .val (.long (Int64.ofNat mo)), .second] [(.ref a)])) rfl rfl (hb hby down_ens_1)
  refine own_st st4 ?_
  show own_Out _ _ _ _ (T1.setTop (mkF m 4 #[.val (.ref a), .val (.long (Int64.ofNat mo)), .second] [(.ref (ck n))]))
  refine own_lenB X2 hx hZ e3 (Fc n (Nat.le_refl n)) (z := (Int32.ofNat (cap n))) rfl (hb hby down_ens_4) ?_
  show own_Out _ _ _ _ (T1.setTop (mkF m 5 #[.val (.ref a), .val (.long (Int64.ofNat mo)), .second] [(.int (Int32.ofNat (cap n)))]))
  refine own_st (G := T1.setTop (mkF m 6 #[.val (.ref a), .val (.long (Int64.ofNat mo)), .second] [(.ref a), (.int (Int32.ofNat (cap n)))])) (fun _ kk => XS.aloadN X2.here hx rfl (hb hby down_ens_5) rfl rfl kk) ?_
  obtain ⟨T5, X6, e7, st8⟩ := getF X2 hx hZ hown (host := "") (Or.inl (own_w hw 32 rfl)) Via.refl e3 (O).2.2.2.2.2.2.1 (g := (mkF m 6 #[.val (.ref a), .val (.long (Int64.ofNat mo)), .second] [(.ref a), (.int (Int32.ofNat (cap n)))])) rfl rfl (hb hby down_ens_6)
  refine own_st st8 ?_
  show own_Out _ _ _ _ (T5.setTop (mkF m 9 #[.val (.ref a), .val (.long (Int64.ofNat mo)), .second] [(.int (Int32.ofNat (ln n))), (.int (Int32.ofNat (cap n)))]))
  refine own_st (G := T5.setTop (mkF m 10 #[.val (.ref a), .val (.long (Int64.ofNat mo)), .second] [(.int ((Int32.ofNat (cap n)) - (Int32.ofNat (ln n))))])) (fun _ kk => XS.isub X6.here hx rfl (hb hby down_ens_9) rfl kk) ?_
  refine own_st (G := T5.setTop (mkF m 11 #[.val (.ref a), .val (.long (Int64.ofNat mo)), .second] [(.long ((Int32.ofNat (cap n)) - (Int32.ofNat (ln n))).toInt64)])) (fun _ kk => XS.i2l X6.here hx rfl (hb hby down_ens_10) rfl kk) ?_
  refine own_st (G := T5.setTop (mkF m 12 #[.val (.ref a), .val (.long (Int64.ofNat mo)), .second] [(.long (Int64.ofNat mo)), (.long ((Int32.ofNat (cap n)) - (Int32.ofNat (ln n))).toInt64)])) (fun _ kk => XS.lloadN X6.here hx rfl (hb hby down_ens_11) rfl kk) ?_
  refine own_st (G := T5.setTop (mkF m 13 #[.val (.ref a), .val (.long (Int64.ofNat mo)), .second] [(.int (BdW.cmpL ((Int32.ofNat (cap n)) - (Int32.ofNat (ln n))).toInt64 (Int64.ofNat mo)))])) (fun _ kk => XT.lcmp X6.here hx rfl (hb hby down_ens_12) rfl kk) ?_
  by_cases hc9 : ((Int32.ofNat (cap n)) - (Int32.ofNat (ln n))).toInt64 < (Int64.ofNat mo)
  · skip
    refine own_st (G := T5.setTop (mkF m 16 #[.val (.ref a), .val (.long (Int64.ofNat mo)), .second] [])) (fun _ kk => XS.ifNo X6.here hx rfl (hb hby down_ens_13) rfl (XT.ll_ge_f hc9) kk) ?_
    refine own_st (G := T5.setTop (mkF m 17 #[.val (.ref a), .val (.long (Int64.ofNat mo)), .second] [(.ref a)])) (fun _ kk => XS.aloadN X6.here hx rfl (hb hby down_ens_16) rfl rfl kk) ?_
    refine own_st (G := T5.setTop (mkF m 18 #[.val (.ref a), .val (.long (Int64.ofNat mo)), .second] [(.long (Int64.ofNat mo)), (.ref a)])) (fun _ kk => XS.lloadN X6.here hx rfl (hb hby down_ens_17) rfl kk) ?_
    refine own_callP X6 hx hZ (y := (⟨"com/example/kennel/kennel/Utf8Builder", "grow", "(J)V"⟩ : MethodName)) (b := a) (as' := [(.long (Int64.ofNat mo))]) hown (own_w hw 86 rfl) (own_w hw 87 rfl) (own_w hw 88 rfl) (own_w hw 89 rfl) (own_w hw 4 rfl) (own_nf (y := ⟨"com/example/kennel/kennel/Utf8Builder", "appendBytes", "([BII)Lcom/example/kennel/kennel/Utf8Builder;"⟩) (a0 := #[]) rfl (notFace_of_selects (args := #[]) (mvT hZ (own_w hw 26 rfl))) (mvT hZ (own_w hw 25 rfl))) (by decide) (own_grow l Z a0 hw [] a mo mm tt rr F h0 n0 V1 hmm hmo htt) (O).1 0 (by decide) (by decide) (by decide) (by decide) (rest := []) (by rw [hml]; rfl) (lenOf (by decide : parseMethodDescriptor "(J)V" = some ⟨[.long], none⟩) rfl) rfl (Nat.le_of_eq rfl) (hb hby down_ens_18) e7 ?_
    intro T13 L14 v16 X15 hQ
    obtain ⟨rfl, N10', Bl12, V11⟩ := hQ
    show own_Out _ _ _ _ (T13.setTop (mkF m 21 #[.val (.ref a), .val (.long (Int64.ofNat mo)), .second] []))
    have N10 := Fr.app N0 N10'
    refine own_ret0 X15 hx hret hlk (hb hby down_ens_21) (by decide) (by decide) ?_
    exact ⟨rfl, N10, Bl12, V11⟩
  · skip
    refine own_st (G := T5.setTop (mkF m 21 #[.val (.ref a), .val (.long (Int64.ofNat mo)), .second] [])) (fun _ kk => XS.ifYes X6.here hx rfl (pc0 := 13) (pc' := 21) rfl (hb hby down_ens_13) rfl (XT.ll_ge_t hc9) (by decide) (by decide) kk) ?_
    refine own_ret0 X6 hx hret hlk (hb hby down_ens_21) (by decide) (by decide) ?_
    rw [e7]
    exact ⟨rfl, N0, own_Bl_refl, n, ck, cap, ln, ct, ea, la, fe, fl, ⟨O, Fe, Fl, Fc, P⟩, by omega, ht, hF, own_room (P10 n (Nat.le_refl n)) (P9 n (Nat.le_refl n)) hmo hc9⟩
theorem pn_own_app : plainFor (⟨"com/example/kennel/kennel/Utf8Builder", "appendBytes", "([BII)Lcom/example/kennel/kennel/Utf8Builder;"⟩ : MethodName) = true := by first | exact plainFor_of_name (by first | (simp [plainName, overriddenIn]; done) | decide +kernel) | decide +kernel
theorem down_app_0 : decode prog_48_method_18_code 0 = .ok (.aload_n 0, 1) := by decide +kernel
theorem down_app_1 : decode prog_48_method_18_code 1 = .ok (.iload_n 3, 1) := by decide +kernel
theorem down_app_2 : decode prog_48_method_18_code 2 = .ok (.iload_n 2, 1) := by decide +kernel
theorem down_app_3 : decode prog_48_method_18_code 3 = .ok (.isub, 1) := by decide +kernel
theorem down_app_4 : decode prog_48_method_18_code 4 = .ok (.i2l, 1) := by decide +kernel
theorem down_app_5 : decode prog_48_method_18_code 5 = .ok (.invokevirtual 76, 3) := by decide +kernel
theorem down_app_8 : decode prog_48_method_18_code 8 = .ok (.aload_n 1, 1) := by decide +kernel
theorem down_app_9 : decode prog_48_method_18_code 9 = .ok (.iload_n 2, 1) := by decide +kernel
theorem down_app_10 : decode prog_48_method_18_code 10 = .ok (.aload_n 0, 1) := by decide +kernel
theorem down_app_11 : decode prog_48_method_18_code 11 = .ok (.getfield 15, 3) := by decide +kernel
theorem down_app_14 : decode prog_48_method_18_code 14 = .ok (.aload_n 0, 1) := by decide +kernel
theorem down_app_15 : decode prog_48_method_18_code 15 = .ok (.getfield 36, 3) := by decide +kernel
theorem down_app_18 : decode prog_48_method_18_code 18 = .ok (.iload_n 3, 1) := by decide +kernel
theorem down_app_19 : decode prog_48_method_18_code 19 = .ok (.iload_n 2, 1) := by decide +kernel
theorem down_app_20 : decode prog_48_method_18_code 20 = .ok (.isub, 1) := by decide +kernel
theorem down_app_21 : decode prog_48_method_18_code 21 = .ok (.invokestatic 55, 3) := by decide +kernel
theorem down_app_24 : decode prog_48_method_18_code 24 = .ok (.aload_n 0, 1) := by decide +kernel
theorem down_app_25 : decode prog_48_method_18_code 25 = .ok (.dup, 1) := by decide +kernel
theorem down_app_26 : decode prog_48_method_18_code 26 = .ok (.getfield 36, 3) := by decide +kernel
theorem down_app_29 : decode prog_48_method_18_code 29 = .ok (.iload_n 3, 1) := by decide +kernel
theorem down_app_30 : decode prog_48_method_18_code 30 = .ok (.iload_n 2, 1) := by decide +kernel
theorem down_app_31 : decode prog_48_method_18_code 31 = .ok (.isub, 1) := by decide +kernel
theorem down_app_32 : decode prog_48_method_18_code 32 = .ok (.iadd, 1) := by decide +kernel
theorem down_app_33 : decode prog_48_method_18_code 33 = .ok (.putfield 36, 3) := by decide +kernel
theorem down_app_36 : decode prog_48_method_18_code 36 = .ok (.aload_n 0, 1) := by decide +kernel
theorem down_app_37 : decode prog_48_method_18_code 37 = .ok (.areturn, 1) := by decide +kernel
def Q_own_app (Z : State)  (a b k mm tt rr : Nat) (F fr : Nat → Int32) (h0 : Heap) (n0 : Nat) (v : Option Value) (h : Heap) (L : List Loc) : Prop := v = some (.ref a) ∧ Fr n0 L ∧ own_Bl h0 h a ∧ own_V Z h a n0 (mm + 1) (tt + k) (fun p => if p < tt then F p else fr (p - tt)) 0
set_option maxRecDepth 65536 in
set_option maxHeartbeats 40000000 in
theorem own_app (l : Launch) (Z : State) (a0 : Array Value) (hw : ∀ d ∈ tables_1, d.before a0 Z = true) (ws : List Jvm.Cond)  (a b k mm tt rr : Nat) (F fr : Nat → Int32) (h0 : Heap) (n0 : Nat) (V0 : own_V Z h0 a n0 mm tt F rr) (Fb : own_AB Z h0 b 512 fr) (hba : b < a) (hk : k ≤ 511) (hmm : mm ≤ 3) (htt : tt ≤ 1022) :
    MetFree l (⟨"com/example/kennel/kennel/Utf8Builder", "appendBytes", "([BII)Lcom/example/kennel/kennel/Utf8Builder;"⟩ : MethodName) (head1 (Jvm.Cond.code (⟨"com/example/kennel/kennel/Utf8Builder", "appendBytes", "([BII)Lcom/example/kennel/kennel/Utf8Builder;"⟩ : MethodName) prog_48_method_18_code 4 (some (.object "com/example/kennel/kennel/Utf8Builder")) :: ws) ({ frames := 3, cells := 1, slots := 1533, locals := 51 } : Room)) (fun aa U => aa = #[(.ref a), (.ref b), (.int (0 : Int32)), (.int (Int32.ofNat k))] ∧ Z.Warmed39 U.vm ∧ U.heap = h0) (fun _ _ _ _ _ => True) (fun _ U o U' => ∃ v L, o = .returned v ∧ Q_own_app Z a b k mm tt rr F fr h0 n0 v U'.heap L ∧ FrameEnd U o U' L ({ frames := 3, cells := 1, slots := 1533, locals := 51 } : Room).cells ({ frames := 3, cells := 1, slots := 1533, locals := 51 } : Room).slots) := by
  refine own_body (x := (⟨"com/example/kennel/kennel/Utf8Builder", "appendBytes", "([BII)Lcom/example/kennel/kennel/Utf8Builder;"⟩ : MethodName)) (maxL := 4) (as' := #[(.ref a), (.ref b), (.int (0 : Int32)), (.int (Int32.ofNat k))]) (Q := Q_own_app Z a b k mm tt rr F fr h0 n0) pn_own_app #[.val (.ref a), .val (.ref b), .val (.int (0 : Int32)), .val (.int (Int32.ofNat k))] (fun m => by first | (simp [entryFrame, mkF, argsToLocals, Value.category]; done) | rfl) ?_
  intro p e s m below meth c T0 X0 hx hby hml hret hlk hown hnm hZ e0
  replace hml : c.maxLocals = 4 := hml
  replace hown : s.vm.findClass "com/example/kennel/kennel/Utf8Builder" = some m.cls := hown
  have N0 := Fr.nil n0
  have EX0 : Exa Z h0 a "com/example/kennel/kennel/Utf8Builder" := by obtain ⟨n, ck, cap, ln, ct, ea, la, fe, fl, ⟨O, -⟩, -⟩ := V0; exact O.1
  refine own_st (G := T0.setTop (mkF m 1 #[.val (.ref a), .val (.ref b), .val (.int (0 : Int32)), .val (.int (Int32.ofNat k))] [(.ref a)])) (fun _ kk => XS.aloadN X0.here hx rfl (hb hby down_app_0) rfl rfl kk) ?_
  refine own_st (G := T0.setTop (mkF m 2 #[.val (.ref a), .val (.ref b), .val (.int (0 : Int32)), .val (.int (Int32.ofNat k))] [(.int (Int32.ofNat k)), (.ref a)])) (fun _ kk => XS.iloadN X0.here hx rfl (hb hby down_app_1) rfl kk) ?_
  refine own_st (G := T0.setTop (mkF m 3 #[.val (.ref a), .val (.ref b), .val (.int (0 : Int32)), .val (.int (Int32.ofNat k))] [(.int (0 : Int32)), (.int (Int32.ofNat k)), (.ref a)])) (fun _ kk => XS.iloadN X0.here hx rfl (hb hby down_app_2) rfl kk) ?_
  refine own_st (G := T0.setTop (mkF m 4 #[.val (.ref a), .val (.ref b), .val (.int (0 : Int32)), .val (.int (Int32.ofNat k))] [(.int ((Int32.ofNat k) - (0 : Int32))), (.ref a)])) (fun _ kk => XS.isub X0.here hx rfl (hb hby down_app_3) rfl kk) ?_
  rw [show ((Int32.ofNat k) - (0 : Int32)) = (Int32.ofNat k) from own_sub0I _]
  refine own_st (G := T0.setTop (mkF m 5 #[.val (.ref a), .val (.ref b), .val (.int (0 : Int32)), .val (.int (Int32.ofNat k))] [(.long (Int32.ofNat k).toInt64), (.ref a)])) (fun _ kk => XS.i2l X0.here hx rfl (hb hby down_app_4) rfl kk) ?_
  rw [show (Int32.ofNat k).toInt64 = (Int64.ofNat k) from own_i64 (by omega)]
  refine own_callP X0 hx hZ (y := (⟨"com/example/kennel/kennel/Utf8Builder", "ensure", "(J)V"⟩ : MethodName)) (b := a) (as' := [(.long (Int64.ofNat k))]) hown (own_w hw 28 rfl) (own_w hw 29 rfl) (own_w hw 30 rfl) (own_w hw 31 rfl) (own_w hw 4 rfl) (own_nf (y := ⟨"com/example/kennel/kennel/Utf8Builder", "appendBytes", "([BII)Lcom/example/kennel/kennel/Utf8Builder;"⟩) (a0 := #[]) rfl (notFace_of_selects (args := #[]) (mvT hZ (own_w hw 26 rfl))) (mvT hZ (own_w hw 25 rfl))) (by decide) (own_ens l Z a0 hw [] a k mm tt rr F h0 n0 V0 (by omega) (by omega) (by omega)) EX0 0 (by decide) (by decide) (by decide) (by decide) (rest := []) (by rw [hml]; rfl) (lenOf (by decide : parseMethodDescriptor "(J)V" = some ⟨[.long], none⟩) rfl) rfl (Nat.le_of_eq rfl) (hb hby down_app_5) e0 ?_
  intro T4 L5 v7 X6 hQ
  obtain ⟨rfl, N1', Bl3, V2⟩ := hQ
  show own_Out _ _ _ _ (T4.setTop (mkF m 8 #[.val (.ref a), .val (.ref b), .val (.int (0 : Int32)), .val (.int (Int32.ofNat k))] []))
  have N1 := Fr.app N0 N1'
  obtain ⟨n, ck, cap, ln, ct, ea, la, fe, fl, ⟨O, Fe, Fl, Fc, P⟩, hn, ht, hF, hr⟩ := V2
  have hck := own_ckge P
  obtain ⟨P1, P2, P3, P4, P5, P6, P7, P8, P9, P10⟩ := id P
  have Fb8 := own_AB_bl Fb Bl3 hba
  refine own_st (G := T4.setTop (mkF m 9 #[.val (.ref a), .val (.ref b), .val (.int (0 : Int32)), .val (.int (Int32.ofNat k))] [(.ref b)])) (fun _ kk => XS.aloadN X6.here hx rfl (hb hby down_app_8) rfl rfl kk) ?_
  refine own_st (G := T4.setTop (mkF m 10 #[.val (.ref a), .val (.ref b), .val (.int (0 : Int32)), .val (.int (Int32.ofNat k))] [(.int (0 : Int32)), (.ref b)])) (fun _ kk => XS.iloadN X6.here hx rfl (hb hby down_app_9) rfl kk) ?_
  refine own_st (G := T4.setTop (mkF m 11 #[.val (.ref a), .val (.ref b), .val (.int (0 : Int32)), .val (.int (Int32.ofNat k))] [(.ref a), (.int (0 : Int32)), (.ref b)])) (fun _ kk => XS.aloadN X6.here hx rfl (hb hby down_app_10) rfl rfl kk) ?_
  obtain ⟨T9, X10, e11, st12⟩ := getF X6 hx hZ hown (host := "") (Or.inl (own_w hw 12 rfl)) Via.refl rfl (O).2.1 (g := (mkF m 11 #[.val (.ref a), .val (.ref b), .val (.int (0 : Int32)), .val (.int (Int32.ofNat k))] [(.ref a), (.int (0 : Int32)), (.ref b)])) rfl rfl (hb hby down_app_11)
  refine own_st st12 ?_
  show own_Out _ _ _ _ (T9.setTop (mkF m 14 #[.val (.ref a), .val (.ref b), .val (.int (0 : Int32)), .val (.int (Int32.ofNat k))] [(.ref (ck n)), (.int (0 : Int32)), (.ref b)]))
  refine own_st (G := T9.setTop (mkF m 15 #[.val (.ref a), .val (.ref b), .val (.int (0 : Int32)), .val (.int (Int32.ofNat k))] [(.ref a), (.ref (ck n)), (.int (0 : Int32)), (.ref b)])) (fun _ kk => XS.aloadN X10.here hx rfl (hb hby down_app_14) rfl rfl kk) ?_
  obtain ⟨T13, X14, e15, st16⟩ := getF X10 hx hZ hown (host := "") (Or.inl (own_w hw 32 rfl)) Via.refl e11 (O).2.2.2.2.2.2.1 (g := (mkF m 15 #[.val (.ref a), .val (.ref b), .val (.int (0 : Int32)), .val (.int (Int32.ofNat k))] [(.ref a), (.ref (ck n)), (.int (0 : Int32)), (.ref b)])) rfl rfl (hb hby down_app_15)
  refine own_st st16 ?_
  show own_Out _ _ _ _ (T13.setTop (mkF m 18 #[.val (.ref a), .val (.ref b), .val (.int (0 : Int32)), .val (.int (Int32.ofNat k))] [(.int (Int32.ofNat (ln n))), (.ref (ck n)), (.int (0 : Int32)), (.ref b)]))
  refine own_st (G := T13.setTop (mkF m 19 #[.val (.ref a), .val (.ref b), .val (.int (0 : Int32)), .val (.int (Int32.ofNat k))] [(.int (Int32.ofNat k)), (.int (Int32.ofNat (ln n))), (.ref (ck n)), (.int (0 : Int32)), (.ref b)])) (fun _ kk => XS.iloadN X14.here hx rfl (hb hby down_app_18) rfl kk) ?_
  refine own_st (G := T13.setTop (mkF m 20 #[.val (.ref a), .val (.ref b), .val (.int (0 : Int32)), .val (.int (Int32.ofNat k))] [(.int (0 : Int32)), (.int (Int32.ofNat k)), (.int (Int32.ofNat (ln n))), (.ref (ck n)), (.int (0 : Int32)), (.ref b)])) (fun _ kk => XS.iloadN X14.here hx rfl (hb hby down_app_19) rfl kk) ?_
  refine own_st (G := T13.setTop (mkF m 21 #[.val (.ref a), .val (.ref b), .val (.int (0 : Int32)), .val (.int (Int32.ofNat k))] [(.int ((Int32.ofNat k) - (0 : Int32))), (.int (Int32.ofNat (ln n))), (.ref (ck n)), (.int (0 : Int32)), (.ref b)])) (fun _ kk => XS.isub X14.here hx rfl (hb hby down_app_20) rfl kk) ?_
  rw [show ((Int32.ofNat k) - (0 : Int32)) = (Int32.ofNat k) from own_sub0I _]
  refine own_arraycopyB X14 hx hZ hown (own_w hw 34 rfl) (own_w hw 37 rfl) (own_w hw 35 rfl) (own_w hw 36 rfl) e15 Fb8 (Fc n (Nat.le_refl n)) (sp := (0 : Int32)) (dp := (Int32.ofNat (ln n))) (nn := (Int32.ofNat k)) (i1 := 0) (i2 := (ln n)) (i3 := k) (by decide) (own_ixn (by have := P9 n (Nat.le_refl n); have := P10 n (Nat.le_refl n); omega)).1 (own_ixn (by omega)).1 rfl (own_ixn (by have := P9 n (Nat.le_refl n); have := P10 n (Nat.le_refl n); omega)).2 (own_ixn (by omega)).2 (by omega) hr N1 (hck n (Nat.le_refl n)).2.2.2.1 (rest := []) (by rw [hml]; rfl) (hb hby down_app_21) (by decide) 0 (Nat.le_of_eq rfl) (by decide) ?_
  intro T17 h18 L24 X19 e20 N21 K22 F23
  show own_Out _ _ _ _ (T17.setTop (mkF m 24 #[.val (.ref a), .val (.ref b), .val (.int (0 : Int32)), .val (.int (Int32.ofNat k))] []))
  have Bl25 := own_Bl_keep Bl3 K22 (by have := hck n (Nat.le_refl n); omega)
  have O26 := own_B_keep K22 (ninS (own_neA (by have := hck n (Nat.le_refl n); omega)) nin0) O
  have F27 := own_AR_keep Fe K22 (ninS (own_neA (by have := hck n (Nat.le_refl n); omega)) nin0)
  have F28 := own_AI_keep Fl K22 (ninS (own_neA (by have := hck n (Nat.le_refl n); omega)) nin0)
  have Fc29 : ∀ i, i < n → own_AB Z h18 (ck i) (cap i) (ct i) := fun i hi => own_AB_keep (Fc i (Nat.le_of_lt hi)) K22 (ninS (own_neA (Or.inl (P6 i n hi (Nat.le_refl n)))) nin0)
  refine own_st (G := T17.setTop (mkF m 25 #[.val (.ref a), .val (.ref b), .val (.int (0 : Int32)), .val (.int (Int32.ofNat k))] [(.ref a)])) (fun _ kk => XS.aloadN X19.here hx rfl (hb hby down_app_24) rfl rfl kk) ?_
  refine own_st (G := T17.setTop (mkF m 26 #[.val (.ref a), .val (.ref b), .val (.int (0 : Int32)), .val (.int (Int32.ofNat k))] [(.ref a), (.ref a)])) (fun _ kk => XS.dup X19.here hx rfl (hb hby down_app_25) rfl rfl kk) ?_
  obtain ⟨T30, X31, e32, st33⟩ := getF X19 hx hZ hown (host := "") (Or.inl (own_w hw 32 rfl)) Via.refl e20 (O26).2.2.2.2.2.2.1 (g := (mkF m 26 #[.val (.ref a), .val (.ref b), .val (.int (0 : Int32)), .val (.int (Int32.ofNat k))] [(.ref a), (.ref a)])) rfl rfl (hb hby down_app_26)
  refine own_st st33 ?_
  show own_Out _ _ _ _ (T30.setTop (mkF m 29 #[.val (.ref a), .val (.ref b), .val (.int (0 : Int32)), .val (.int (Int32.ofNat k))] [(.int (Int32.ofNat (ln n))), (.ref a)]))
  refine own_st (G := T30.setTop (mkF m 30 #[.val (.ref a), .val (.ref b), .val (.int (0 : Int32)), .val (.int (Int32.ofNat k))] [(.int (Int32.ofNat k)), (.int (Int32.ofNat (ln n))), (.ref a)])) (fun _ kk => XS.iloadN X31.here hx rfl (hb hby down_app_29) rfl kk) ?_
  refine own_st (G := T30.setTop (mkF m 31 #[.val (.ref a), .val (.ref b), .val (.int (0 : Int32)), .val (.int (Int32.ofNat k))] [(.int (0 : Int32)), (.int (Int32.ofNat k)), (.int (Int32.ofNat (ln n))), (.ref a)])) (fun _ kk => XS.iloadN X31.here hx rfl (hb hby down_app_30) rfl kk) ?_
  refine own_st (G := T30.setTop (mkF m 32 #[.val (.ref a), .val (.ref b), .val (.int (0 : Int32)), .val (.int (Int32.ofNat k))] [(.int ((Int32.ofNat k) - (0 : Int32))), (.int (Int32.ofNat (ln n))), (.ref a)])) (fun _ kk => XS.isub X31.here hx rfl (hb hby down_app_31) rfl kk) ?_
  rw [show ((Int32.ofNat k) - (0 : Int32)) = (Int32.ofNat k) from own_sub0I _]
  refine own_st (G := T30.setTop (mkF m 33 #[.val (.ref a), .val (.ref b), .val (.int (0 : Int32)), .val (.int (Int32.ofNat k))] [(.int ((Int32.ofNat (ln n)) + (Int32.ofNat k))), (.ref a)])) (fun _ kk => XS.iadd X31.here hx rfl (hb hby down_app_32) rfl kk) ?_
  rw [show ((Int32.ofNat (ln n)) + (Int32.ofNat k)) = (Int32.ofNat (ln n + k)) from own_addI (by have := P10 n (Nat.le_refl n); omega)]
  obtain ⟨T34, h35, X36, e37, W38, st39⟩ := putF X31 hx hZ hown (host := "") (Or.inl (own_w hw 32 rfl)) Via.refl e32 (O26).2.2.2.2.2.2.1 (O26).1 (Or.inl (own_w hw 33 rfl)) (own_w hw 3 rfl) (ty := .int) (by decide) rfl rfl (g := (mkF m 33 #[.val (.ref a), .val (.ref b), .val (.int (0 : Int32)), .val (.int (Int32.ofNat k))] [(.int (Int32.ofNat (ln n + k))), (.ref a)])) rfl rfl (hb hby down_app_33)
  refine own_st st39 ?_
  show own_Out _ _ _ _ (T34.setTop (mkF m 36 #[.val (.ref a), .val (.ref b), .val (.int (0 : Int32)), .val (.int (Int32.ofNat k))] []))
  have O40 : own_B Z h35 a (.ref (ck n)) (.ref ea) (.ref la) (Int32.ofNat n) (Int64.ofNat (own_sum ln n)) (Int32.ofNat (ln n + k)) (1048576 : Int32) := own_B_length hw W38 O26
  have N41 := Fr.snoc X36 N21 P1
  have Bl42 := own_Bl_wr Bl25 W38 (by have := hck n (Nat.le_refl n); omega)
  have F43 := own_AR_keep F27 (Keep.of_wr W38) (ninS (own_neA (by have := hck n (Nat.le_refl n); omega)) nin0)
  have F44 := own_AI_keep F28 (Keep.of_wr W38) (ninS (own_neA (by have := hck n (Nat.le_refl n); omega)) nin0)
  have Fc45 : ∀ i, i < n → own_AB Z h35 (ck i) (cap i) (ct i) := fun i hi => own_AB_keep (Fc29 i hi) (Keep.of_wr W38) (ninS (own_neA (by have := hck i (Nat.le_of_lt hi); omega)) nin0)
  have F46 := own_AB_keep F23 (Keep.of_wr W38) (ninS (own_neA (by have := hck n (Nat.le_refl n); omega)) nin0)
  refine own_st (G := T34.setTop (mkF m 37 #[.val (.ref a), .val (.ref b), .val (.int (0 : Int32)), .val (.int (Int32.ofNat k))] [(.ref a)])) (fun _ kk => XS.aloadN X36.here hx rfl (hb hby down_app_36) rfl rfl kk) ?_
  refine own_retA X36 hx hret rfl rfl hlk (hb hby down_app_37) (by decide) (by decide) ?_
  rw [e37]
  exact ⟨rfl, N41, Bl42, own_V_app O40 F43 F44 F46 Fc45 P hn ht hF hr⟩
theorem pn_own_ap1 : plainFor (⟨"com/example/kennel/kennel/Utf8Builder", "append", "(C)Lcom/example/kennel/kennel/Utf8Builder;"⟩ : MethodName) = true := by first | exact plainFor_of_name (by first | (simp [plainName, overriddenIn]; done) | decide +kernel) | decide +kernel
theorem down_ap1_0 : decode prog_48_method_7_code 0 = .ok (.iload_n 1, 1) := by decide +kernel
theorem down_ap1_1 : decode prog_48_method_7_code 1 = .ok (.sipush 128, 3) := by decide +kernel
theorem down_ap1_4 : decode prog_48_method_7_code 4 = .ok (.if_icmp .ge 40, 3) := by decide +kernel
theorem down_ap1_7 : decode prog_48_method_7_code 7 = .ok (.aload_n 0, 1) := by decide +kernel
theorem down_ap1_8 : decode prog_48_method_7_code 8 = .ok (.getfield 36, 3) := by decide +kernel
theorem down_ap1_11 : decode prog_48_method_7_code 11 = .ok (.aload_n 0, 1) := by decide +kernel
theorem down_ap1_12 : decode prog_48_method_7_code 12 = .ok (.getfield 15, 3) := by decide +kernel
theorem down_ap1_15 : decode prog_48_method_7_code 15 = .ok (.arraylength, 1) := by decide +kernel
theorem down_ap1_16 : decode prog_48_method_7_code 16 = .ok (.if_icmp .ne 8, 3) := by decide +kernel
theorem down_ap1_19 : decode prog_48_method_7_code 19 = .ok (.aload_n 0, 1) := by decide +kernel
theorem down_ap1_20 : decode prog_48_method_7_code 20 = .ok (.lconst 1, 1) := by decide +kernel
theorem down_ap1_21 : decode prog_48_method_7_code 21 = .ok (.invokevirtual 70, 3) := by decide +kernel
theorem down_ap1_24 : decode prog_48_method_7_code 24 = .ok (.aload_n 0, 1) := by decide +kernel
theorem down_ap1_25 : decode prog_48_method_7_code 25 = .ok (.getfield 15, 3) := by decide +kernel
theorem down_ap1_28 : decode prog_48_method_7_code 28 = .ok (.aload_n 0, 1) := by decide +kernel
theorem down_ap1_29 : decode prog_48_method_7_code 29 = .ok (.dup, 1) := by decide +kernel
theorem down_ap1_30 : decode prog_48_method_7_code 30 = .ok (.getfield 36, 3) := by decide +kernel
theorem down_ap1_33 : decode prog_48_method_7_code 33 = .ok (.dup_x1, 1) := by decide +kernel
theorem down_ap1_34 : decode prog_48_method_7_code 34 = .ok (.iconst 1, 1) := by decide +kernel
theorem down_ap1_35 : decode prog_48_method_7_code 35 = .ok (.iadd, 1) := by decide +kernel
theorem down_ap1_36 : decode prog_48_method_7_code 36 = .ok (.putfield 36, 3) := by decide +kernel
theorem down_ap1_39 : decode prog_48_method_7_code 39 = .ok (.iload_n 1, 1) := by decide +kernel
theorem down_ap1_40 : decode prog_48_method_7_code 40 = .ok (.i2b, 1) := by decide +kernel
theorem down_ap1_41 : decode prog_48_method_7_code 41 = .ok (.bastore, 1) := by decide +kernel
theorem down_ap1_42 : decode prog_48_method_7_code 42 = .ok (.aload_n 0, 1) := by decide +kernel
theorem down_ap1_43 : decode prog_48_method_7_code 43 = .ok (.areturn, 1) := by decide +kernel
def Q_own_ap1 (Z : State) (cc : Int32) (a mm tt rr : Nat) (F : Nat → Int32) (h0 : Heap) (n0 : Nat) (v : Option Value) (h : Heap) (L : List Loc) : Prop := v = some (.ref a) ∧ Fr n0 L ∧ own_Bl h0 h a ∧ own_V Z h a n0 (mm + 1) (tt + 1) (fun p => if p < tt then F p else nar .byte cc.toInt8.toInt32) 0
set_option maxRecDepth 65536 in
set_option maxHeartbeats 40000000 in
theorem own_ap1 (l : Launch) (Z : State) (a0 : Array Value) (hw : ∀ d ∈ tables_1, d.before a0 Z = true) (ws : List Jvm.Cond) (cc : Int32) (a mm tt rr : Nat) (F : Nat → Int32) (h0 : Heap) (n0 : Nat) (V0 : own_V Z h0 a n0 mm tt F rr) (hcc : cc < 128) (hmm : mm ≤ 3) (htt : tt ≤ 1533) :
    MetFree l (⟨"com/example/kennel/kennel/Utf8Builder", "append", "(C)Lcom/example/kennel/kennel/Utf8Builder;"⟩ : MethodName) (head1 (Jvm.Cond.code (⟨"com/example/kennel/kennel/Utf8Builder", "append", "(C)Lcom/example/kennel/kennel/Utf8Builder;"⟩ : MethodName) prog_48_method_7_code 2 (some (.object "com/example/kennel/kennel/Utf8Builder")) :: ws) ({ frames := 2, cells := 1, slots := 1533, locals := 35 } : Room)) (fun aa U => aa = #[(.ref a), (.int cc)] ∧ Z.Warmed39 U.vm ∧ U.heap = h0) (fun _ _ _ _ _ => True) (fun _ U o U' => ∃ v L, o = .returned v ∧ Q_own_ap1 Z cc a mm tt rr F h0 n0 v U'.heap L ∧ FrameEnd U o U' L ({ frames := 2, cells := 1, slots := 1533, locals := 35 } : Room).cells ({ frames := 2, cells := 1, slots := 1533, locals := 35 } : Room).slots) := by
  refine own_body (x := (⟨"com/example/kennel/kennel/Utf8Builder", "append", "(C)Lcom/example/kennel/kennel/Utf8Builder;"⟩ : MethodName)) (maxL := 2) (as' := #[(.ref a), (.int cc)]) (Q := Q_own_ap1 Z cc a mm tt rr F h0 n0) pn_own_ap1 #[.val (.ref a), .val (.int cc)] (fun m => by first | (simp [entryFrame, mkF, argsToLocals, Value.category]; done) | rfl) ?_
  intro p e s m below meth c T0 X0 hx hby hml hret hlk hown hnm hZ e0
  replace hml : c.maxLocals = 2 := hml
  replace hown : s.vm.findClass "com/example/kennel/kennel/Utf8Builder" = some m.cls := hown
  have N0 := Fr.nil n0
  have V1 := V0
  obtain ⟨n, ck, cap, ln, ct, ea, la, fe, fl, ⟨O, Fe, Fl, Fc, P⟩, hn, ht, hF, hr⟩ := V0
  have hck := own_ckge P
  obtain ⟨P1, P2, P3, P4, P5, P6, P7, P8, P9, P10⟩ := id P
  have Bl0 := own_Bl_refl (h := h0) (a := a)
  refine own_st (G := T0.setTop (mkF m 1 #[.val (.ref a), .val (.int cc)] [(.int cc)])) (fun _ kk => XS.iloadN X0.here hx rfl (hb hby down_ap1_0) rfl kk) ?_
  refine own_st (G := T0.setTop (mkF m 4 #[.val (.ref a), .val (.int cc)] [(.int (128 : Int32)), (.int cc)])) (fun _ kk => XT.sipushV X0.here hx rfl (128 : Int32) (hb hby down_ap1_1) (by decide) kk) ?_
  have hk1 : (cc < (128 : Int32)) := hcc
  refine own_st (G := T0.setTop (mkF m 7 #[.val (.ref a), .val (.int cc)] [])) (fun _ kk => XS.icmpNo X0.here hx rfl (hb hby down_ap1_4) rfl (XT.ii_ge_f hk1) kk) ?_
  refine own_st (G := T0.setTop (mkF m 8 #[.val (.ref a), .val (.int cc)] [(.ref a)])) (fun _ kk => XS.aloadN X0.here hx rfl (hb hby down_ap1_7) rfl rfl kk) ?_
  obtain ⟨T2, X3, e4, st5⟩ := getF X0 hx hZ hown (host := "") (Or.inl (own_w hw 32 rfl)) Via.refl e0 (O).2.2.2.2.2.2.1 (g := (mkF m 8 #[.val (.ref a), .val (.int cc)] [(.ref a)])) rfl rfl (hb hby down_ap1_8)
  refine own_st st5 ?_
  show own_Out _ _ _ _ (T2.setTop (mkF m 11 #[.val (.ref a), .val (.int cc)] [(.int (Int32.ofNat (ln n)))]))
  refine own_st (G := T2.setTop (mkF m 12 #[.val (.ref a), .val (.int cc)] [(.ref a), (.int (Int32.ofNat (ln n)))])) (fun _ kk => XS.aloadN X3.here hx rfl (hb hby down_ap1_11) rfl rfl kk) ?_
  obtain ⟨T6, X7, e8, st9⟩ := getF X3 hx hZ hown (host := "") (Or.inl (own_w hw 12 rfl)) Via.refl e4 (O).2.1 (g := (mkF m 12 #[.val (.ref a), .val (.int cc)] [(.ref a), (.int (Int32.ofNat (ln n)))])) rfl rfl (hb hby down_ap1_12)
  refine own_st st9 ?_
  show own_Out _ _ _ _ (T6.setTop (mkF m 15 #[.val (.ref a), .val (.int cc)] [(.ref (ck n)), (.int (Int32.ofNat (ln n)))]))
  refine own_lenB X7 hx hZ e8 (Fc n (Nat.le_refl n)) (z := (Int32.ofNat (cap n))) rfl (hb hby down_ap1_15) ?_
  show own_Out _ _ _ _ (T6.setTop (mkF m 16 #[.val (.ref a), .val (.int cc)] [(.int (Int32.ofNat (cap n))), (.int (Int32.ofNat (ln n)))]))
  by_cases hc10 : (Int32.ofNat (ln n)) = (Int32.ofNat (cap n))
  · skip
    refine own_st (G := T6.setTop (mkF m 19 #[.val (.ref a), .val (.int cc)] [])) (fun _ kk => XS.icmpNo X7.here hx rfl (hb hby down_ap1_16) rfl (XT.ii_ne_f hc10) kk) ?_
    refine own_st (G := T6.setTop (mkF m 20 #[.val (.ref a), .val (.int cc)] [(.ref a)])) (fun _ kk => XS.aloadN X7.here hx rfl (hb hby down_ap1_19) rfl rfl kk) ?_
    refine own_st (G := T6.setTop (mkF m 21 #[.val (.ref a), .val (.int cc)] [(.long (1 : Int64)), (.ref a)])) (fun _ kk => XT.lconstV X7.here hx rfl (1 : Int64) (hb hby down_ap1_20) (by decide) kk) ?_
    refine own_callP X7 hx hZ (y := (⟨"com/example/kennel/kennel/Utf8Builder", "grow", "(J)V"⟩ : MethodName)) (b := a) (as' := [(.long (1 : Int64))]) hown (own_w hw 86 rfl) (own_w hw 87 rfl) (own_w hw 88 rfl) (own_w hw 89 rfl) (own_w hw 4 rfl) (own_nf (y := ⟨"com/example/kennel/kennel/Utf8Builder", "appendBytes", "([BII)Lcom/example/kennel/kennel/Utf8Builder;"⟩) (a0 := #[]) rfl (notFace_of_selects (args := #[]) (mvT hZ (own_w hw 26 rfl))) (mvT hZ (own_w hw 25 rfl))) (by decide) (own_grow l Z a0 hw [] a 1 mm tt rr F h0 n0 V1 (by omega) (by decide) (by omega)) (O).1 0 (by decide) (by decide) (by decide) (by decide) (rest := []) (by rw [hml]; rfl) (lenOf (by decide : parseMethodDescriptor "(J)V" = some ⟨[.long], none⟩) rfl) rfl (Nat.le_of_eq rfl) (hb hby down_ap1_21) e8 ?_
    intro T14 L15 v17 X16 hQ
    obtain ⟨rfl, N11', Bl13, V12⟩ := hQ
    show own_Out _ _ _ _ (T14.setTop (mkF m 24 #[.val (.ref a), .val (.int cc)] []))
    have N11 := Fr.app N0 N11'
    clear hr hF ht hn P1 P2 P3 P4 P5 P6 P7 P8 P9 P10 hck P Fc Fl Fe O
    obtain ⟨n, ck, cap, ln, ct, ea, la, fe, fl, ⟨O, Fe, Fl, Fc, P⟩, hn, ht, hF, hr⟩ := V12
    have hck := own_ckge P
    obtain ⟨P1, P2, P3, P4, P5, P6, P7, P8, P9, P10⟩ := id P
    have hr1 := hr
    refine own_st (G := T14.setTop (mkF m 25 #[.val (.ref a), .val (.int cc)] [(.ref a)])) (fun _ kk => XS.aloadN X16.here hx rfl (hb hby down_ap1_24) rfl rfl kk) ?_
    obtain ⟨T18, X19, e20, st21⟩ := getF X16 hx hZ hown (host := "") (Or.inl (own_w hw 12 rfl)) Via.refl rfl (O).2.1 (g := (mkF m 25 #[.val (.ref a), .val (.int cc)] [(.ref a)])) rfl rfl (hb hby down_ap1_25)
    refine own_st st21 ?_
    show own_Out _ _ _ _ (T18.setTop (mkF m 28 #[.val (.ref a), .val (.int cc)] [(.ref (ck n))]))
    refine own_st (G := T18.setTop (mkF m 29 #[.val (.ref a), .val (.int cc)] [(.ref a), (.ref (ck n))])) (fun _ kk => XS.aloadN X19.here hx rfl (hb hby down_ap1_28) rfl rfl kk) ?_
    refine own_st (G := T18.setTop (mkF m 30 #[.val (.ref a), .val (.int cc)] [(.ref a), (.ref a), (.ref (ck n))])) (fun _ kk => XS.dup X19.here hx rfl (hb hby down_ap1_29) rfl rfl kk) ?_
    obtain ⟨T22, X23, e24, st25⟩ := getF X19 hx hZ hown (host := "") (Or.inl (own_w hw 32 rfl)) Via.refl e20 (O).2.2.2.2.2.2.1 (g := (mkF m 30 #[.val (.ref a), .val (.int cc)] [(.ref a), (.ref a), (.ref (ck n))])) rfl rfl (hb hby down_ap1_30)
    refine own_st st25 ?_
    show own_Out _ _ _ _ (T22.setTop (mkF m 33 #[.val (.ref a), .val (.int cc)] [(.int (Int32.ofNat (ln n))), (.ref a), (.ref (ck n))]))
    refine own_st (G := T22.setTop (mkF m 34 #[.val (.ref a), .val (.int cc)] [(.int (Int32.ofNat (ln n))), (.ref a), (.int (Int32.ofNat (ln n))), (.ref (ck n))])) (fun _ kk => XS.dupX1 X23.here hx rfl (hb hby down_ap1_33) rfl rfl rfl kk) ?_
    refine own_st (G := T22.setTop (mkF m 35 #[.val (.ref a), .val (.int cc)] [(.int (1 : Int32)), (.int (Int32.ofNat (ln n))), (.ref a), (.int (Int32.ofNat (ln n))), (.ref (ck n))])) (fun _ kk => XT.iconstV X23.here hx rfl (1 : Int32) (hb hby down_ap1_34) (by decide) kk) ?_
    refine own_st (G := T22.setTop (mkF m 36 #[.val (.ref a), .val (.int cc)] [(.int ((Int32.ofNat (ln n)) + (1 : Int32))), (.ref a), (.int (Int32.ofNat (ln n))), (.ref (ck n))])) (fun _ kk => XS.iadd X23.here hx rfl (hb hby down_ap1_35) rfl kk) ?_
    rw [show ((Int32.ofNat (ln n)) + (1 : Int32)) = (Int32.ofNat (ln n + 1)) from own_addI (y := 1) (by have := P10 n (Nat.le_refl n); omega)]
    obtain ⟨T26, h27, X28, e29, W30, st31⟩ := putF X23 hx hZ hown (host := "") (Or.inl (own_w hw 32 rfl)) Via.refl e24 (O).2.2.2.2.2.2.1 (O).1 (Or.inl (own_w hw 33 rfl)) (own_w hw 3 rfl) (ty := .int) (by decide) rfl rfl (g := (mkF m 36 #[.val (.ref a), .val (.int cc)] [(.int (Int32.ofNat (ln n + 1))), (.ref a), (.int (Int32.ofNat (ln n))), (.ref (ck n))])) rfl rfl (hb hby down_ap1_36)
    refine own_st st31 ?_
    show own_Out _ _ _ _ (T26.setTop (mkF m 39 #[.val (.ref a), .val (.int cc)] [(.int (Int32.ofNat (ln n))), (.ref (ck n))]))
    have O32 : own_B Z h27 a (.ref (ck n)) (.ref ea) (.ref la) (Int32.ofNat n) (Int64.ofNat (own_sum ln n)) (Int32.ofNat (ln n + 1)) (1048576 : Int32) := own_B_length hw W30 O
    have N33 := Fr.snoc X28 N11 P1
    have Bl34 := own_Bl_wr Bl13 W30 (by have := hck n (Nat.le_refl n); omega)
    have F35 := own_AR_keep Fe (Keep.of_wr W30) (ninS (own_neA (by have := hck n (Nat.le_refl n); omega)) nin0)
    have F36 := own_AI_keep Fl (Keep.of_wr W30) (ninS (own_neA (by have := hck n (Nat.le_refl n); omega)) nin0)
    have Fc37 : ∀ i, i ≤ n → own_AB Z h27 (ck i) (cap i) (ct i) := fun i hi => own_AB_keep (Fc i hi) (Keep.of_wr W30) (ninS (own_neA (by have := hck i hi; omega)) nin0)
    refine own_st (G := T26.setTop (mkF m 40 #[.val (.ref a), .val (.int cc)] [(.int cc), (.int (Int32.ofNat (ln n))), (.ref (ck n))])) (fun _ kk => XS.iloadN X28.here hx rfl (hb hby down_ap1_39) rfl kk) ?_
    refine own_st (G := T26.setTop (mkF m 41 #[.val (.ref a), .val (.int cc)] [(.int cc.toInt8.toInt32), (.int (Int32.ofNat (ln n))), (.ref (ck n))])) (fun _ kk => XS.i2b X28.here hx rfl (hb hby down_ap1_40) rfl kk) ?_
    refine own_bastore X28 hx hZ e29 (Fc37 n (Nat.le_refl n)) (j := (Int32.ofNat (ln n))) (i := (ln n)) (own_ixn (by have := P10 n (Nat.le_refl n); omega)).1 (own_ixn (by have := P10 n (Nat.le_refl n); omega)).2 hr1 (hb hby down_ap1_41) ?_
    intro T38 h39 X40 e41 W42 F43
    show own_Out _ _ _ _ (T38.setTop (mkF m 42 #[.val (.ref a), .val (.int cc)] []))
    have N44 := Fr.snoc X40 N33 (by have := hck n (Nat.le_refl n); omega)
    have Bl45 := own_Bl_wr Bl34 W42 (by have := hck n (Nat.le_refl n); omega)
    have O46 := own_B_keep (Keep.of_wr W42) (ninS (own_neA (by have := hck n (Nat.le_refl n); omega)) nin0) O32
    have F47 := own_AR_keep F35 (Keep.of_wr W42) (ninS (own_neA (by have := hck n (Nat.le_refl n); omega)) nin0)
    have F48 := own_AI_keep F36 (Keep.of_wr W42) (ninS (own_neA (by have := hck n (Nat.le_refl n); omega)) nin0)
    have Fc49 : ∀ i, i < n → own_AB Z h39 (ck i) (cap i) (ct i) := fun i hi => own_AB_keep (Fc37 i (Nat.le_of_lt hi)) (Keep.of_wr W42) (ninS (own_neA (Or.inl (P6 i n hi (Nat.le_refl n)))) nin0)
    refine own_st (G := T38.setTop (mkF m 43 #[.val (.ref a), .val (.int cc)] [(.ref a)])) (fun _ kk => XS.aloadN X40.here hx rfl (hb hby down_ap1_42) rfl rfl kk) ?_
    refine own_retA X40 hx hret rfl rfl hlk (hb hby down_ap1_43) (by decide) (by decide) ?_
    rw [e41]
    exact ⟨rfl, N44, Bl45, own_V_put O46 F47 F48 F43 Fc49 P (by omega) ht hF hr1⟩
  · skip
    refine own_st (G := T6.setTop (mkF m 24 #[.val (.ref a), .val (.int cc)] [])) (fun _ kk => XS.icmpYes X7.here hx rfl (pc0 := 16) (pc' := 24) rfl (hb hby down_ap1_16) rfl (XT.ii_ne_t hc10) (by decide) (by decide) kk) ?_
    have hr1 : ln n + 1 ≤ cap n := by have := P9 n (Nat.le_refl n); have := P10 n (Nat.le_refl n); have : ¬ ln n = cap n := fun z => hc10 (by rw [z]); omega
    refine own_st (G := T6.setTop (mkF m 25 #[.val (.ref a), .val (.int cc)] [(.ref a)])) (fun _ kk => XS.aloadN X7.here hx rfl (hb hby down_ap1_24) rfl rfl kk) ?_
    obtain ⟨T50, X51, e52, st53⟩ := getF X7 hx hZ hown (host := "") (Or.inl (own_w hw 12 rfl)) Via.refl e8 (O).2.1 (g := (mkF m 25 #[.val (.ref a), .val (.int cc)] [(.ref a)])) rfl rfl (hb hby down_ap1_25)
    refine own_st st53 ?_
    show own_Out _ _ _ _ (T50.setTop (mkF m 28 #[.val (.ref a), .val (.int cc)] [(.ref (ck n))]))
    refine own_st (G := T50.setTop (mkF m 29 #[.val (.ref a), .val (.int cc)] [(.ref a), (.ref (ck n))])) (fun _ kk => XS.aloadN X51.here hx rfl (hb hby down_ap1_28) rfl rfl kk) ?_
    refine own_st (G := T50.setTop (mkF m 30 #[.val (.ref a), .val (.int cc)] [(.ref a), (.ref a), (.ref (ck n))])) (fun _ kk => XS.dup X51.here hx rfl (hb hby down_ap1_29) rfl rfl kk) ?_
    obtain ⟨T54, X55, e56, st57⟩ := getF X51 hx hZ hown (host := "") (Or.inl (own_w hw 32 rfl)) Via.refl e52 (O).2.2.2.2.2.2.1 (g := (mkF m 30 #[.val (.ref a), .val (.int cc)] [(.ref a), (.ref a), (.ref (ck n))])) rfl rfl (hb hby down_ap1_30)
    refine own_st st57 ?_
    show own_Out _ _ _ _ (T54.setTop (mkF m 33 #[.val (.ref a), .val (.int cc)] [(.int (Int32.ofNat (ln n))), (.ref a), (.ref (ck n))]))
    refine own_st (G := T54.setTop (mkF m 34 #[.val (.ref a), .val (.int cc)] [(.int (Int32.ofNat (ln n))), (.ref a), (.int (Int32.ofNat (ln n))), (.ref (ck n))])) (fun _ kk => XS.dupX1 X55.here hx rfl (hb hby down_ap1_33) rfl rfl rfl kk) ?_
    refine own_st (G := T54.setTop (mkF m 35 #[.val (.ref a), .val (.int cc)] [(.int (1 : Int32)), (.int (Int32.ofNat (ln n))), (.ref a), (.int (Int32.ofNat (ln n))), (.ref (ck n))])) (fun _ kk => XT.iconstV X55.here hx rfl (1 : Int32) (hb hby down_ap1_34) (by decide) kk) ?_
    refine own_st (G := T54.setTop (mkF m 36 #[.val (.ref a), .val (.int cc)] [(.int ((Int32.ofNat (ln n)) + (1 : Int32))), (.ref a), (.int (Int32.ofNat (ln n))), (.ref (ck n))])) (fun _ kk => XS.iadd X55.here hx rfl (hb hby down_ap1_35) rfl kk) ?_
    rw [show ((Int32.ofNat (ln n)) + (1 : Int32)) = (Int32.ofNat (ln n + 1)) from own_addI (y := 1) (by have := P10 n (Nat.le_refl n); omega)]
    obtain ⟨T58, h59, X60, e61, W62, st63⟩ := putF X55 hx hZ hown (host := "") (Or.inl (own_w hw 32 rfl)) Via.refl e56 (O).2.2.2.2.2.2.1 (O).1 (Or.inl (own_w hw 33 rfl)) (own_w hw 3 rfl) (ty := .int) (by decide) rfl rfl (g := (mkF m 36 #[.val (.ref a), .val (.int cc)] [(.int (Int32.ofNat (ln n + 1))), (.ref a), (.int (Int32.ofNat (ln n))), (.ref (ck n))])) rfl rfl (hb hby down_ap1_36)
    refine own_st st63 ?_
    show own_Out _ _ _ _ (T58.setTop (mkF m 39 #[.val (.ref a), .val (.int cc)] [(.int (Int32.ofNat (ln n))), (.ref (ck n))]))
    have O64 : own_B Z h59 a (.ref (ck n)) (.ref ea) (.ref la) (Int32.ofNat n) (Int64.ofNat (own_sum ln n)) (Int32.ofNat (ln n + 1)) (1048576 : Int32) := own_B_length hw W62 O
    have N65 := Fr.snoc X60 N0 P1
    have Bl66 := own_Bl_wr Bl0 W62 (by have := hck n (Nat.le_refl n); omega)
    have F67 := own_AR_keep Fe (Keep.of_wr W62) (ninS (own_neA (by have := hck n (Nat.le_refl n); omega)) nin0)
    have F68 := own_AI_keep Fl (Keep.of_wr W62) (ninS (own_neA (by have := hck n (Nat.le_refl n); omega)) nin0)
    have Fc69 : ∀ i, i ≤ n → own_AB Z h59 (ck i) (cap i) (ct i) := fun i hi => own_AB_keep (Fc i hi) (Keep.of_wr W62) (ninS (own_neA (by have := hck i hi; omega)) nin0)
    refine own_st (G := T58.setTop (mkF m 40 #[.val (.ref a), .val (.int cc)] [(.int cc), (.int (Int32.ofNat (ln n))), (.ref (ck n))])) (fun _ kk => XS.iloadN X60.here hx rfl (hb hby down_ap1_39) rfl kk) ?_
    refine own_st (G := T58.setTop (mkF m 41 #[.val (.ref a), .val (.int cc)] [(.int cc.toInt8.toInt32), (.int (Int32.ofNat (ln n))), (.ref (ck n))])) (fun _ kk => XS.i2b X60.here hx rfl (hb hby down_ap1_40) rfl kk) ?_
    refine own_bastore X60 hx hZ e61 (Fc69 n (Nat.le_refl n)) (j := (Int32.ofNat (ln n))) (i := (ln n)) (own_ixn (by have := P10 n (Nat.le_refl n); omega)).1 (own_ixn (by have := P10 n (Nat.le_refl n); omega)).2 hr1 (hb hby down_ap1_41) ?_
    intro T70 h71 X72 e73 W74 F75
    show own_Out _ _ _ _ (T70.setTop (mkF m 42 #[.val (.ref a), .val (.int cc)] []))
    have N76 := Fr.snoc X72 N65 (by have := hck n (Nat.le_refl n); omega)
    have Bl77 := own_Bl_wr Bl66 W74 (by have := hck n (Nat.le_refl n); omega)
    have O78 := own_B_keep (Keep.of_wr W74) (ninS (own_neA (by have := hck n (Nat.le_refl n); omega)) nin0) O64
    have F79 := own_AR_keep F67 (Keep.of_wr W74) (ninS (own_neA (by have := hck n (Nat.le_refl n); omega)) nin0)
    have F80 := own_AI_keep F68 (Keep.of_wr W74) (ninS (own_neA (by have := hck n (Nat.le_refl n); omega)) nin0)
    have Fc81 : ∀ i, i < n → own_AB Z h71 (ck i) (cap i) (ct i) := fun i hi => own_AB_keep (Fc69 i (Nat.le_of_lt hi)) (Keep.of_wr W74) (ninS (own_neA (Or.inl (P6 i n hi (Nat.le_refl n)))) nin0)
    refine own_st (G := T70.setTop (mkF m 43 #[.val (.ref a), .val (.int cc)] [(.ref a)])) (fun _ kk => XS.aloadN X72.here hx rfl (hb hby down_ap1_42) rfl rfl kk) ?_
    refine own_retA X72 hx hret rfl rfl hlk (hb hby down_ap1_43) (by decide) (by decide) ?_
    rw [e73]
    exact ⟨rfl, N76, Bl77, own_V_put O78 F79 F80 F75 Fc81 P (by omega) ht hF hr1⟩
theorem pn_own_tru : plainFor (⟨"com/example/kennel/kennel/Utf8Builder", "truncate", "(J)V"⟩ : MethodName) = true := by first | exact plainFor_of_name (by first | (simp [plainName, overriddenIn]; done) | decide +kernel) | decide +kernel
theorem down_tru_0 : decode prog_48_method_6_code 0 = .ok (.lload_n 1, 1) := by decide +kernel
theorem down_tru_1 : decode prog_48_method_6_code 1 = .ok (.aload_n 0, 1) := by decide +kernel
theorem down_tru_2 : decode prog_48_method_6_code 2 = .ok (.getfield 32, 3) := by decide +kernel
theorem down_tru_5 : decode prog_48_method_6_code 5 = .ok (.lcmp, 1) := by decide +kernel
theorem down_tru_6 : decode prog_48_method_6_code 6 = .ok (.ifCond .ge 66, 3) := by decide +kernel
theorem down_tru_9 : decode prog_48_method_6_code 9 = .ok (.aload_n 0, 1) := by decide +kernel
theorem down_tru_10 : decode prog_48_method_6_code 10 = .ok (.dup, 1) := by decide +kernel
theorem down_tru_11 : decode prog_48_method_6_code 11 = .ok (.getfield 61, 3) := by decide +kernel
theorem down_tru_14 : decode prog_48_method_6_code 14 = .ok (.iconst 1, 1) := by decide +kernel
theorem down_tru_15 : decode prog_48_method_6_code 15 = .ok (.isub, 1) := by decide +kernel
theorem down_tru_16 : decode prog_48_method_6_code 16 = .ok (.putfield 61, 3) := by decide +kernel
theorem down_tru_19 : decode prog_48_method_6_code 19 = .ok (.aload_n 0, 1) := by decide +kernel
theorem down_tru_20 : decode prog_48_method_6_code 20 = .ok (.aload_n 0, 1) := by decide +kernel
theorem down_tru_21 : decode prog_48_method_6_code 21 = .ok (.getfield 20, 3) := by decide +kernel
theorem down_tru_24 : decode prog_48_method_6_code 24 = .ok (.aload_n 0, 1) := by decide +kernel
theorem down_tru_25 : decode prog_48_method_6_code 25 = .ok (.getfield 61, 3) := by decide +kernel
theorem down_tru_28 : decode prog_48_method_6_code 28 = .ok (.aaload, 1) := by decide +kernel
theorem down_tru_29 : decode prog_48_method_6_code 29 = .ok (.putfield 15, 3) := by decide +kernel
theorem down_tru_32 : decode prog_48_method_6_code 32 = .ok (.aload_n 0, 1) := by decide +kernel
theorem down_tru_33 : decode prog_48_method_6_code 33 = .ok (.aload_n 0, 1) := by decide +kernel
theorem down_tru_34 : decode prog_48_method_6_code 34 = .ok (.getfield 24, 3) := by decide +kernel
theorem down_tru_37 : decode prog_48_method_6_code 37 = .ok (.aload_n 0, 1) := by decide +kernel
theorem down_tru_38 : decode prog_48_method_6_code 38 = .ok (.getfield 61, 3) := by decide +kernel
theorem down_tru_41 : decode prog_48_method_6_code 41 = .ok (.iaload, 1) := by decide +kernel
theorem down_tru_42 : decode prog_48_method_6_code 42 = .ok (.putfield 36, 3) := by decide +kernel
theorem down_tru_45 : decode prog_48_method_6_code 45 = .ok (.aload_n 0, 1) := by decide +kernel
theorem down_tru_46 : decode prog_48_method_6_code 46 = .ok (.dup, 1) := by decide +kernel
theorem down_tru_47 : decode prog_48_method_6_code 47 = .ok (.getfield 32, 3) := by decide +kernel
theorem down_tru_50 : decode prog_48_method_6_code 50 = .ok (.aload_n 0, 1) := by decide +kernel
theorem down_tru_51 : decode prog_48_method_6_code 51 = .ok (.getfield 36, 3) := by decide +kernel
theorem down_tru_54 : decode prog_48_method_6_code 54 = .ok (.i2l, 1) := by decide +kernel
theorem down_tru_55 : decode prog_48_method_6_code 55 = .ok (.lsub, 1) := by decide +kernel
theorem down_tru_56 : decode prog_48_method_6_code 56 = .ok (.putfield 32, 3) := by decide +kernel
theorem down_tru_59 : decode prog_48_method_6_code 59 = .ok (.aload_n 0, 1) := by decide +kernel
theorem down_tru_60 : decode prog_48_method_6_code 60 = .ok (.getfield 20, 3) := by decide +kernel
theorem down_tru_63 : decode prog_48_method_6_code 63 = .ok (.aload_n 0, 1) := by decide +kernel
theorem down_tru_64 : decode prog_48_method_6_code 64 = .ok (.getfield 61, 3) := by decide +kernel
theorem down_tru_67 : decode prog_48_method_6_code 67 = .ok (.aconst_null, 1) := by decide +kernel
theorem down_tru_68 : decode prog_48_method_6_code 68 = .ok (.aastore, 1) := by decide +kernel
theorem down_tru_69 : decode prog_48_method_6_code 69 = .ok (.goto (-69), 3) := by decide +kernel
theorem down_tru_72 : decode prog_48_method_6_code 72 = .ok (.aload_n 0, 1) := by decide +kernel
theorem down_tru_73 : decode prog_48_method_6_code 73 = .ok (.lload_n 1, 1) := by decide +kernel
theorem down_tru_74 : decode prog_48_method_6_code 74 = .ok (.aload_n 0, 1) := by decide +kernel
theorem down_tru_75 : decode prog_48_method_6_code 75 = .ok (.getfield 32, 3) := by decide +kernel
theorem down_tru_78 : decode prog_48_method_6_code 78 = .ok (.lsub, 1) := by decide +kernel
theorem down_tru_79 : decode prog_48_method_6_code 79 = .ok (.l2i, 1) := by decide +kernel
theorem down_tru_80 : decode prog_48_method_6_code 80 = .ok (.putfield 36, 3) := by decide +kernel
theorem down_tru_83 : decode prog_48_method_6_code 83 = .ok (.return_, 1) := by decide +kernel
def Q_own_tru (Z : State)  (a q mm tt rr : Nat) (F : Nat → Int32) (h0 : Heap) (n0 : Nat) (v : Option Value) (h : Heap) (L : List Loc) : Prop := v = none ∧ Fr n0 L ∧ own_Bl h0 h a ∧ own_V Z h a n0 mm q F 0
set_option maxRecDepth 65536 in
set_option maxHeartbeats 40000000 in
theorem own_tru (l : Launch) (Z : State) (a0 : Array Value) (hw : ∀ d ∈ tables_1, d.before a0 Z = true) (ws : List Jvm.Cond)  (a q mm tt rr : Nat) (F : Nat → Int32) (h0 : Heap) (n0 : Nat) (V0 : own_V Z h0 a n0 mm tt F rr) (hmm : mm ≤ 3) (htt : tt ≤ 1600) (hq : q ≤ tt) :
    MetFree l (⟨"com/example/kennel/kennel/Utf8Builder", "truncate", "(J)V"⟩ : MethodName) (head1 (Jvm.Cond.code (⟨"com/example/kennel/kennel/Utf8Builder", "truncate", "(J)V"⟩ : MethodName) prog_48_method_6_code 3 none :: ws) ({ frames := 0, cells := 0, slots := 0, locals := 0 } : Room)) (fun aa U => aa = #[(.ref a), (.long (Int64.ofNat q))] ∧ Z.Warmed39 U.vm ∧ U.heap = h0) (fun _ _ _ _ _ => True) (fun _ U o U' => ∃ v L, o = .returned v ∧ Q_own_tru Z a q mm tt rr F h0 n0 v U'.heap L ∧ FrameEnd U o U' L ({ frames := 0, cells := 0, slots := 0, locals := 0 } : Room).cells ({ frames := 0, cells := 0, slots := 0, locals := 0 } : Room).slots) := by
  refine own_body (x := (⟨"com/example/kennel/kennel/Utf8Builder", "truncate", "(J)V"⟩ : MethodName)) (maxL := 3) (as' := #[(.ref a), (.long (Int64.ofNat q))]) (Q := Q_own_tru Z a q mm tt rr F h0 n0) pn_own_tru #[.val (.ref a), .val (.long (Int64.ofNat q)), .second] (fun m => by first | (simp [entryFrame, mkF, argsToLocals, Value.category]; done) | rfl) ?_
  intro p e s m below meth c T0 X0 hx hby hml hret hlk hown hnm hZ e0
  replace hml : c.maxLocals = 3 := hml
  replace hown : s.vm.findClass "com/example/kennel/kennel/Utf8Builder" = some m.cls := hown
  have N0 := Fr.nil n0
  obtain ⟨n, ck, cap, ln, ct, ea, la, fe, fl, ⟨O, Fe, Fl, Fc, P⟩, hn, ht, hF, hr⟩ := V0
  have hck := own_ckge P
  obtain ⟨P1, P2, P3, P4, P5, P6, P7, P8, P9, P10⟩ := id P
  have Bl0 := own_Bl_refl (h := h0) (a := a)
  have hq0 : q ≤ own_sum ln (n + 1) := by omega
  have hs0 : own_sum ln (n + 1) ≤ 1600 := by omega
  rw [← ht] at hF
  have lp : ∀ (n : Nat) (T : State) (hh : Heap) (L : List Loc) (fe : Nat → Value), Stand p l e ({ frames := 0, cells := 0, slots := 0, locals := 0 } : Room) s m #[(.ref a), (.long (Int64.ofNat q))] below meth c T L 0 0 → T.heap = hh → Fr n0 L → own_Bl h0 hh a → own_B Z hh a (.ref (ck n)) (.ref ea) (.ref la) (Int32.ofNat n) (Int64.ofNat (own_sum ln n)) (Int32.ofNat (ln n)) (1048576 : Int32) → own_AR Z hh ea 4 fe → own_AI Z hh la 4 fl → (∀ i, i ≤ n → own_AB Z hh (ck i) (cap i) (ct i)) → own_UP n0 a n ck cap ln ea la fe fl → n ≤ mm → q ≤ own_sum ln (n + 1) → own_sum ln (n + 1) ≤ 1600 → (∀ y, y < own_sum ln (n + 1) → own_cat ln ct n y = F y) → own_Out p e below (own_Q (Q_own_tru Z a q mm tt rr F h0 n0) s ({ frames := 0, cells := 0, slots := 0, locals := 0 } : Room).cells ({ frames := 0, cells := 0, slots := 0, locals := 0 } : Room).slots) (T.setTop (mkF m 0 #[.val (.ref a), .val (.long (Int64.ofNat q)), .second] [])) := by
    clear hF hr ht hn hck P1 P2 P3 P4 P5 P6 P7 P8 P9 P10 P Fc Fl Fe O hq0 hs0 htt hq e0 X0 N0 Bl0
    intro n; induction n with
    | zero =>
      intro T1 h1 L1 fe X1 e1 N1 Bl1 O Fe Fl Fc P hn hq hs hF
      have hck := own_ckge P
      obtain ⟨P1, P2, P3, P4, P5, P6, P7, P8, P9, P10⟩ := id P
      refine own_st (G := T1.setTop (mkF m 1 #[.val (.ref a), .val (.long (Int64.ofNat q)), .second] [(.long (Int64.ofNat q))])) (fun _ kk => XS.lloadN X1.here hx rfl (hb hby down_tru_0) rfl kk) ?_
      refine own_st (G := T1.setTop (mkF m 2 #[.val (.ref a), .val (.long (Int64.ofNat q)), .second] [(.ref a), (.long (Int64.ofNat q))])) (fun _ kk => XS.aloadN X1.here hx rfl (hb hby down_tru_1) rfl rfl kk) ?_
      obtain ⟨T1, X2, e3, st4⟩ := getF X1 hx hZ hown (host := "") (Or.inl (own_w hw 43 rfl)) Via.refl e1 (O).2.2.2.2.2.1 (g := (mkF m 2 #[.val (.ref a), .val (.long (Int64.ofNat q)), .second] [(.ref a), (.long (Int64.ofNat q))])) rfl rfl (hb hby down_tru_2)
      refine own_st st4 ?_
      show own_Out _ _ _ _ (T1.setTop (mkF m 5 #[.val (.ref a), .val (.long (Int64.ofNat q)), .second] [(.long (Int64.ofNat (own_sum ln 0))), (.long (Int64.ofNat q))]))
      refine own_st (G := T1.setTop (mkF m 6 #[.val (.ref a), .val (.long (Int64.ofNat q)), .second] [(.int (BdW.cmpL (Int64.ofNat q) (Int64.ofNat (own_sum ln 0))))])) (fun _ kk => XT.lcmp X2.here hx rfl (hb hby down_tru_5) rfl kk) ?_
      have hk5 : ¬ ((Int64.ofNat q) < (Int64.ofNat (own_sum ln 0))) := (fun z => by have := (own_ltJ (by omega) (by show own_sum ln 0 < _; exact (by decide : 0 < 2147483648))).mp z; exact absurd this (Nat.not_lt_zero _))
      refine own_st (G := T1.setTop (mkF m 72 #[.val (.ref a), .val (.long (Int64.ofNat q)), .second] [])) (fun _ kk => XS.ifYes X2.here hx rfl (pc0 := 6) (pc' := 72) rfl (hb hby down_tru_6) rfl (XT.ll_ge_t hk5) (by decide) (by decide) kk) ?_
      refine own_st (G := T1.setTop (mkF m 73 #[.val (.ref a), .val (.long (Int64.ofNat q)), .second] [(.ref a)])) (fun _ kk => XS.aloadN X2.here hx rfl (hb hby down_tru_72) rfl rfl kk) ?_
      refine own_st (G := T1.setTop (mkF m 74 #[.val (.ref a), .val (.long (Int64.ofNat q)), .second] [(.long (Int64.ofNat q)), (.ref a)])) (fun _ kk => XS.lloadN X2.here hx rfl (hb hby down_tru_73) rfl kk) ?_
      refine own_st (G := T1.setTop (mkF m 75 #[.val (.ref a), .val (.long (Int64.ofNat q)), .second] [(.ref a), (.long (Int64.ofNat q)), (.ref a)])) (fun _ kk => XS.aloadN X2.here hx rfl (hb hby down_tru_74) rfl rfl kk) ?_
      obtain ⟨T6, X7, e8, st9⟩ := getF X2 hx hZ hown (host := "") (Or.inl (own_w hw 43 rfl)) Via.refl e3 (O).2.2.2.2.2.1 (g := (mkF m 75 #[.val (.ref a), .val (.long (Int64.ofNat q)), .second] [(.ref a), (.long (Int64.ofNat q)), (.ref a)])) rfl rfl (hb hby down_tru_75)
      refine own_st st9 ?_
      show own_Out _ _ _ _ (T6.setTop (mkF m 78 #[.val (.ref a), .val (.long (Int64.ofNat q)), .second] [(.long (Int64.ofNat (own_sum ln 0))), (.long (Int64.ofNat q)), (.ref a)]))
      refine own_st (G := T6.setTop (mkF m 79 #[.val (.ref a), .val (.long (Int64.ofNat q)), .second] [(.long ((Int64.ofNat q) - (Int64.ofNat (own_sum ln 0)))), (.ref a)])) (fun _ kk => XS.lsub X7.here hx rfl (hb hby down_tru_78) rfl kk) ?_
      have hsm : own_sum ln 0 ≤ own_sum ln (0 + 1) := own_sum_mono ln (by omega)
      have hle10 : own_sum ln 0 ≤ q := Nat.le_of_not_lt fun z => hk5 ((own_ltJ (by omega) (by omega)).mpr z)
      rw [show ((Int64.ofNat q) - (Int64.ofNat (own_sum ln 0))) = (Int64.ofNat (q - own_sum ln 0)) from own_subJ (by omega) hle10]
      refine own_st (G := T6.setTop (mkF m 80 #[.val (.ref a), .val (.long (Int64.ofNat q)), .second] [(.int (Int64.ofNat (q - own_sum ln 0)).toInt32), (.ref a)])) (fun _ kk => XS.l2i X7.here hx rfl (hb hby down_tru_79) rfl kk) ?_
      rw [show (Int64.ofNat (q - own_sum ln 0)).toInt32 = (Int32.ofNat (q - own_sum ln 0)) from own_i32 (by omega)]
      obtain ⟨T11, h12, X13, e14, W15, st16⟩ := putF X7 hx hZ hown (host := "") (Or.inl (own_w hw 32 rfl)) Via.refl e8 (O).2.2.2.2.2.2.1 (O).1 (Or.inl (own_w hw 33 rfl)) (own_w hw 3 rfl) (ty := .int) (by decide) rfl rfl (g := (mkF m 80 #[.val (.ref a), .val (.long (Int64.ofNat q)), .second] [(.int (Int32.ofNat (q - own_sum ln 0))), (.ref a)])) rfl rfl (hb hby down_tru_80)
      refine own_st st16 ?_
      show own_Out _ _ _ _ (T11.setTop (mkF m 83 #[.val (.ref a), .val (.long (Int64.ofNat q)), .second] []))
      have O17 : own_B Z h12 a (.ref (ck 0)) (.ref ea) (.ref la) (Int32.ofNat 0) (Int64.ofNat (own_sum ln 0)) (Int32.ofNat (q - own_sum ln 0)) (1048576 : Int32) := own_B_length hw W15 O
      have N18 := Fr.snoc X13 N1 P1
      have Bl19 := own_Bl_wr Bl1 W15 (by have := hck 0 (Nat.le_refl 0); omega)
      have F20 := own_AR_keep Fe (Keep.of_wr W15) (ninS (own_neA (by have := hck 0 (Nat.le_refl 0); omega)) nin0)
      have F21 := own_AI_keep Fl (Keep.of_wr W15) (ninS (own_neA (by have := hck 0 (Nat.le_refl 0); omega)) nin0)
      have Fc22 : ∀ i, i ≤ 0 → own_AB Z h12 (ck i) (cap i) (ct i) := fun i hi => own_AB_keep (Fc i hi) (Keep.of_wr W15) (ninS (own_neA (by have := hck i hi; omega)) nin0)
      refine own_ret0 X13 hx hret hlk (hb hby down_tru_83) (by decide) (by decide) ?_
      rw [e14]
      exact ⟨rfl, N18, Bl19, own_V_cut O17 F20 F21 Fc22 P hn hle10 hq (fun y hy => hF y (by omega))⟩
    | succ k ih =>
      intro T1 h1 L1 fe X1 e1 N1 Bl1 O Fe Fl Fc P hn hq hs hF
      have hck := own_ckge P
      obtain ⟨P1, P2, P3, P4, P5, P6, P7, P8, P9, P10⟩ := id P
      refine own_st (G := T1.setTop (mkF m 1 #[.val (.ref a), .val (.long (Int64.ofNat q)), .second] [(.long (Int64.ofNat q))])) (fun _ kk => XS.lloadN X1.here hx rfl (hb hby down_tru_0) rfl kk) ?_
      refine own_st (G := T1.setTop (mkF m 2 #[.val (.ref a), .val (.long (Int64.ofNat q)), .second] [(.ref a), (.long (Int64.ofNat q))])) (fun _ kk => XS.aloadN X1.here hx rfl (hb hby down_tru_1) rfl rfl kk) ?_
      obtain ⟨T23, X24, e25, st26⟩ := getF X1 hx hZ hown (host := "") (Or.inl (own_w hw 43 rfl)) Via.refl e1 (O).2.2.2.2.2.1 (g := (mkF m 2 #[.val (.ref a), .val (.long (Int64.ofNat q)), .second] [(.ref a), (.long (Int64.ofNat q))])) rfl rfl (hb hby down_tru_2)
      refine own_st st26 ?_
      show own_Out _ _ _ _ (T23.setTop (mkF m 5 #[.val (.ref a), .val (.long (Int64.ofNat q)), .second] [(.long (Int64.ofNat (own_sum ln (k + 1)))), (.long (Int64.ofNat q))]))
      refine own_st (G := T23.setTop (mkF m 6 #[.val (.ref a), .val (.long (Int64.ofNat q)), .second] [(.int (BdW.cmpL (Int64.ofNat q) (Int64.ofNat (own_sum ln (k + 1)))))])) (fun _ kk => XT.lcmp X24.here hx rfl (hb hby down_tru_5) rfl kk) ?_
      by_cases hc27 : (Int64.ofNat q) < (Int64.ofNat (own_sum ln (k + 1)))
      · skip
        refine own_st (G := T23.setTop (mkF m 9 #[.val (.ref a), .val (.long (Int64.ofNat q)), .second] [])) (fun _ kk => XS.ifNo X24.here hx rfl (hb hby down_tru_6) rfl (XT.ll_ge_f hc27) kk) ?_
        refine own_st (G := T23.setTop (mkF m 10 #[.val (.ref a), .val (.long (Int64.ofNat q)), .second] [(.ref a)])) (fun _ kk => XS.aloadN X24.here hx rfl (hb hby down_tru_9) rfl rfl kk) ?_
        refine own_st (G := T23.setTop (mkF m 11 #[.val (.ref a), .val (.long (Int64.ofNat q)), .second] [(.ref a), (.ref a)])) (fun _ kk => XS.dup X24.here hx rfl (hb hby down_tru_10) rfl rfl kk) ?_
        obtain ⟨T28, X29, e30, st31⟩ := getF X24 hx hZ hown (host := "") (Or.inl (own_w hw 90 rfl)) Via.refl e25 (O).2.2.2.2.1 (g := (mkF m 11 #[.val (.ref a), .val (.long (Int64.ofNat q)), .second] [(.ref a), (.ref a)])) rfl rfl (hb hby down_tru_11)
        refine own_st st31 ?_
        show own_Out _ _ _ _ (T28.setTop (mkF m 14 #[.val (.ref a), .val (.long (Int64.ofNat q)), .second] [(.int (Int32.ofNat (k + 1))), (.ref a)]))
        refine own_st (G := T28.setTop (mkF m 15 #[.val (.ref a), .val (.long (Int64.ofNat q)), .second] [(.int (1 : Int32)), (.int (Int32.ofNat (k + 1))), (.ref a)])) (fun _ kk => XT.iconstV X29.here hx rfl (1 : Int32) (hb hby down_tru_14) (by decide) kk) ?_
        refine own_st (G := T28.setTop (mkF m 16 #[.val (.ref a), .val (.long (Int64.ofNat q)), .second] [(.int ((Int32.ofNat (k + 1)) - (1 : Int32))), (.ref a)])) (fun _ kk => XS.isub X29.here hx rfl (hb hby down_tru_15) rfl kk) ?_
        rw [show ((Int32.ofNat (k + 1)) - (1 : Int32)) = (Int32.ofNat k) from (own_subI (y := 1) (by omega) (by omega)).trans (congrArg Int32.ofNat (by omega))]
        obtain ⟨T32, h33, X34, e35, W36, st37⟩ := putF X29 hx hZ hown (host := "") (Or.inl (own_w hw 90 rfl)) Via.refl e30 (O).2.2.2.2.1 (O).1 (Or.inl (own_w hw 91 rfl)) (own_w hw 3 rfl) (ty := .int) (by decide) rfl rfl (g := (mkF m 16 #[.val (.ref a), .val (.long (Int64.ofNat q)), .second] [(.int (Int32.ofNat k)), (.ref a)])) rfl rfl (hb hby down_tru_16)
        refine own_st st37 ?_
        show own_Out _ _ _ _ (T32.setTop (mkF m 19 #[.val (.ref a), .val (.long (Int64.ofNat q)), .second] []))
        have O38 : own_B Z h33 a (.ref (ck (k + 1))) (.ref ea) (.ref la) (Int32.ofNat k) (Int64.ofNat (own_sum ln (k + 1))) (Int32.ofNat (ln (k + 1))) (1048576 : Int32) := own_B_earlierCount hw W36 O
        have N39 := Fr.snoc X34 N1 P1
        have Bl40 := own_Bl_wr Bl1 W36 (by have := hck (k + 1) (Nat.le_refl (k + 1)); omega)
        have F41 := own_AR_keep Fe (Keep.of_wr W36) (ninS (own_neA (by have := hck (k + 1) (Nat.le_refl (k + 1)); omega)) nin0)
        have F42 := own_AI_keep Fl (Keep.of_wr W36) (ninS (own_neA (by have := hck (k + 1) (Nat.le_refl (k + 1)); omega)) nin0)
        have Fc43 : ∀ i, i ≤ (k + 1) → own_AB Z h33 (ck i) (cap i) (ct i) := fun i hi => own_AB_keep (Fc i hi) (Keep.of_wr W36) (ninS (own_neA (by have := hck i hi; omega)) nin0)
        refine own_st (G := T32.setTop (mkF m 20 #[.val (.ref a), .val (.long (Int64.ofNat q)), .second] [(.ref a)])) (fun _ kk => XS.aloadN X34.here hx rfl (hb hby down_tru_19) rfl rfl kk) ?_
        refine own_st (G := T32.setTop (mkF m 21 #[.val (.ref a), .val (.long (Int64.ofNat q)), .second] [(.ref a), (.ref a)])) (fun _ kk => XS.aloadN X34.here hx rfl (hb hby down_tru_20) rfl rfl kk) ?_
        obtain ⟨T44, X45, e46, st47⟩ := getF X34 hx hZ hown (host := "") (Or.inl (own_w hw 16 rfl)) Via.refl e35 (O38).2.2.1 (g := (mkF m 21 #[.val (.ref a), .val (.long (Int64.ofNat q)), .second] [(.ref a), (.ref a)])) rfl rfl (hb hby down_tru_21)
        refine own_st st47 ?_
        show own_Out _ _ _ _ (T44.setTop (mkF m 24 #[.val (.ref a), .val (.long (Int64.ofNat q)), .second] [(.ref ea), (.ref a)]))
        refine own_st (G := T44.setTop (mkF m 25 #[.val (.ref a), .val (.long (Int64.ofNat q)), .second] [(.ref a), (.ref ea), (.ref a)])) (fun _ kk => XS.aloadN X45.here hx rfl (hb hby down_tru_24) rfl rfl kk) ?_
        obtain ⟨T48, X49, e50, st51⟩ := getF X45 hx hZ hown (host := "") (Or.inl (own_w hw 90 rfl)) Via.refl e46 (O38).2.2.2.2.1 (g := (mkF m 25 #[.val (.ref a), .val (.long (Int64.ofNat q)), .second] [(.ref a), (.ref ea), (.ref a)])) rfl rfl (hb hby down_tru_25)
        refine own_st st51 ?_
        show own_Out _ _ _ _ (T48.setTop (mkF m 28 #[.val (.ref a), .val (.long (Int64.ofNat q)), .second] [(.int (Int32.ofNat k)), (.ref ea), (.ref a)]))
        refine own_aaload X49 hx hZ e50 F41 (j := (Int32.ofNat k)) (i := k) (own_ixn (n := k) (by omega)).1 (own_ixn (n := k) (by omega)).2 (by omega) (v := (.ref (ck k))) (P7 k (by omega)) (hb hby down_tru_28) ?_
        show own_Out _ _ _ _ (T48.setTop (mkF m 29 #[.val (.ref a), .val (.long (Int64.ofNat q)), .second] [(.ref (ck k)), (.ref a)]))
        obtain ⟨T52, h53, X54, e55, W56, st57⟩ := putF X49 hx hZ hown (host := "") (Or.inl (own_w hw 12 rfl)) Via.refl e50 (O38).2.1 (O38).1 (Or.inl (own_w hw 13 rfl)) (own_w hw 3 rfl) (ty := .array (.byte)) (by decide) rfl rfl (g := (mkF m 29 #[.val (.ref a), .val (.long (Int64.ofNat q)), .second] [(.ref (ck k)), (.ref a)])) rfl rfl (hb hby down_tru_29)
        refine own_st st57 ?_
        show own_Out _ _ _ _ (T52.setTop (mkF m 32 #[.val (.ref a), .val (.long (Int64.ofNat q)), .second] []))
        have O58 : own_B Z h53 a (.ref (ck k)) (.ref ea) (.ref la) (Int32.ofNat k) (Int64.ofNat (own_sum ln (k + 1))) (Int32.ofNat (ln (k + 1))) (1048576 : Int32) := own_B_bytes hw W56 O38
        have N59 := Fr.snoc X54 N39 P1
        have Bl60 := own_Bl_wr Bl40 W56 (by have := hck (k + 1) (Nat.le_refl (k + 1)); omega)
        have F61 := own_AR_keep F41 (Keep.of_wr W56) (ninS (own_neA (by have := hck (k + 1) (Nat.le_refl (k + 1)); omega)) nin0)
        have F62 := own_AI_keep F42 (Keep.of_wr W56) (ninS (own_neA (by have := hck (k + 1) (Nat.le_refl (k + 1)); omega)) nin0)
        have Fc63 : ∀ i, i ≤ (k + 1) → own_AB Z h53 (ck i) (cap i) (ct i) := fun i hi => own_AB_keep (Fc43 i hi) (Keep.of_wr W56) (ninS (own_neA (by have := hck i hi; omega)) nin0)
        refine own_st (G := T52.setTop (mkF m 33 #[.val (.ref a), .val (.long (Int64.ofNat q)), .second] [(.ref a)])) (fun _ kk => XS.aloadN X54.here hx rfl (hb hby down_tru_32) rfl rfl kk) ?_
        refine own_st (G := T52.setTop (mkF m 34 #[.val (.ref a), .val (.long (Int64.ofNat q)), .second] [(.ref a), (.ref a)])) (fun _ kk => XS.aloadN X54.here hx rfl (hb hby down_tru_33) rfl rfl kk) ?_
        obtain ⟨T64, X65, e66, st67⟩ := getF X54 hx hZ hown (host := "") (Or.inl (own_w hw 19 rfl)) Via.refl e55 (O58).2.2.2.1 (g := (mkF m 34 #[.val (.ref a), .val (.long (Int64.ofNat q)), .second] [(.ref a), (.ref a)])) rfl rfl (hb hby down_tru_34)
        refine own_st st67 ?_
        show own_Out _ _ _ _ (T64.setTop (mkF m 37 #[.val (.ref a), .val (.long (Int64.ofNat q)), .second] [(.ref la), (.ref a)]))
        refine own_st (G := T64.setTop (mkF m 38 #[.val (.ref a), .val (.long (Int64.ofNat q)), .second] [(.ref a), (.ref la), (.ref a)])) (fun _ kk => XS.aloadN X65.here hx rfl (hb hby down_tru_37) rfl rfl kk) ?_
        obtain ⟨T68, X69, e70, st71⟩ := getF X65 hx hZ hown (host := "") (Or.inl (own_w hw 90 rfl)) Via.refl e66 (O58).2.2.2.2.1 (g := (mkF m 38 #[.val (.ref a), .val (.long (Int64.ofNat q)), .second] [(.ref a), (.ref la), (.ref a)])) rfl rfl (hb hby down_tru_38)
        refine own_st st71 ?_
        show own_Out _ _ _ _ (T68.setTop (mkF m 41 #[.val (.ref a), .val (.long (Int64.ofNat q)), .second] [(.int (Int32.ofNat k)), (.ref la), (.ref a)]))
        refine own_iaload X69 hx hZ e70 F62 (j := (Int32.ofNat k)) (i := k) (own_ixn (n := k) (by omega)).1 (own_ixn (n := k) (by omega)).2 (by omega) (hb hby down_tru_41) ?_
        show own_Out _ _ _ _ (T68.setTop (mkF m 42 #[.val (.ref a), .val (.long (Int64.ofNat q)), .second] [(.int (fl k)), (.ref a)]))
        rw [show (fl k) = (Int32.ofNat (ln k)) from P8 k (by omega)]
        obtain ⟨T72, h73, X74, e75, W76, st77⟩ := putF X69 hx hZ hown (host := "") (Or.inl (own_w hw 32 rfl)) Via.refl e70 (O58).2.2.2.2.2.2.1 (O58).1 (Or.inl (own_w hw 33 rfl)) (own_w hw 3 rfl) (ty := .int) (by decide) rfl rfl (g := (mkF m 42 #[.val (.ref a), .val (.long (Int64.ofNat q)), .second] [(.int (Int32.ofNat (ln k))), (.ref a)])) rfl rfl (hb hby down_tru_42)
        refine own_st st77 ?_
        show own_Out _ _ _ _ (T72.setTop (mkF m 45 #[.val (.ref a), .val (.long (Int64.ofNat q)), .second] []))
        have O78 : own_B Z h73 a (.ref (ck k)) (.ref ea) (.ref la) (Int32.ofNat k) (Int64.ofNat (own_sum ln (k + 1))) (Int32.ofNat (ln k)) (1048576 : Int32) := own_B_length hw W76 O58
        have N79 := Fr.snoc X74 N59 P1
        have Bl80 := own_Bl_wr Bl60 W76 (by have := hck (k + 1) (Nat.le_refl (k + 1)); omega)
        have F81 := own_AR_keep F61 (Keep.of_wr W76) (ninS (own_neA (by have := hck (k + 1) (Nat.le_refl (k + 1)); omega)) nin0)
        have F82 := own_AI_keep F62 (Keep.of_wr W76) (ninS (own_neA (by have := hck (k + 1) (Nat.le_refl (k + 1)); omega)) nin0)
        have Fc83 : ∀ i, i ≤ (k + 1) → own_AB Z h73 (ck i) (cap i) (ct i) := fun i hi => own_AB_keep (Fc63 i hi) (Keep.of_wr W76) (ninS (own_neA (by have := hck i hi; omega)) nin0)
        refine own_st (G := T72.setTop (mkF m 46 #[.val (.ref a), .val (.long (Int64.ofNat q)), .second] [(.ref a)])) (fun _ kk => XS.aloadN X74.here hx rfl (hb hby down_tru_45) rfl rfl kk) ?_
        refine own_st (G := T72.setTop (mkF m 47 #[.val (.ref a), .val (.long (Int64.ofNat q)), .second] [(.ref a), (.ref a)])) (fun _ kk => XS.dup X74.here hx rfl (hb hby down_tru_46) rfl rfl kk) ?_
        obtain ⟨T84, X85, e86, st87⟩ := getF X74 hx hZ hown (host := "") (Or.inl (own_w hw 43 rfl)) Via.refl e75 (O78).2.2.2.2.2.1 (g := (mkF m 47 #[.val (.ref a), .val (.long (Int64.ofNat q)), .second] [(.ref a), (.ref a)])) rfl rfl (hb hby down_tru_47)
        refine own_st st87 ?_
        show own_Out _ _ _ _ (T84.setTop (mkF m 50 #[.val (.ref a), .val (.long (Int64.ofNat q)), .second] [(.long (Int64.ofNat (own_sum ln (k + 1)))), (.ref a)]))
        refine own_st (G := T84.setTop (mkF m 51 #[.val (.ref a), .val (.long (Int64.ofNat q)), .second] [(.ref a), (.long (Int64.ofNat (own_sum ln (k + 1)))), (.ref a)])) (fun _ kk => XS.aloadN X85.here hx rfl (hb hby down_tru_50) rfl rfl kk) ?_
        obtain ⟨T88, X89, e90, st91⟩ := getF X85 hx hZ hown (host := "") (Or.inl (own_w hw 32 rfl)) Via.refl e86 (O78).2.2.2.2.2.2.1 (g := (mkF m 51 #[.val (.ref a), .val (.long (Int64.ofNat q)), .second] [(.ref a), (.long (Int64.ofNat (own_sum ln (k + 1)))), (.ref a)])) rfl rfl (hb hby down_tru_51)
        refine own_st st91 ?_
        show own_Out _ _ _ _ (T88.setTop (mkF m 54 #[.val (.ref a), .val (.long (Int64.ofNat q)), .second] [(.int (Int32.ofNat (ln k))), (.long (Int64.ofNat (own_sum ln (k + 1)))), (.ref a)]))
        refine own_st (G := T88.setTop (mkF m 55 #[.val (.ref a), .val (.long (Int64.ofNat q)), .second] [(.long (Int32.ofNat (ln k)).toInt64), (.long (Int64.ofNat (own_sum ln (k + 1)))), (.ref a)])) (fun _ kk => XS.i2l X89.here hx rfl (hb hby down_tru_54) rfl kk) ?_
        have hlk : own_sum ln (k + 1) = own_sum ln k + ln k := rfl
        have hlk2 : own_sum ln (k + 1 + 1) = own_sum ln (k + 1) + ln (k + 1) := rfl
        rw [show (Int32.ofNat (ln k)).toInt64 = (Int64.ofNat (ln k)) from own_i64 (by omega)]
        refine own_st (G := T88.setTop (mkF m 56 #[.val (.ref a), .val (.long (Int64.ofNat q)), .second] [(.long ((Int64.ofNat (own_sum ln (k + 1))) - (Int64.ofNat (ln k)))), (.ref a)])) (fun _ kk => XS.lsub X89.here hx rfl (hb hby down_tru_55) rfl kk) ?_
        rw [show ((Int64.ofNat (own_sum ln (k + 1))) - (Int64.ofNat (ln k))) = (Int64.ofNat (own_sum ln k)) from (own_subJ (by omega) (by omega)).trans (congrArg Int64.ofNat (by omega))]
        obtain ⟨T92, h93, X94, e95, W96, st97⟩ := putF X89 hx hZ hown (host := "") (Or.inl (own_w hw 43 rfl)) Via.refl e90 (O78).2.2.2.2.2.1 (O78).1 (Or.inl (own_w hw 44 rfl)) (own_w hw 3 rfl) (ty := .long) (by decide) rfl rfl (g := (mkF m 56 #[.val (.ref a), .val (.long (Int64.ofNat q)), .second] [(.long (Int64.ofNat (own_sum ln k))), (.ref a)])) rfl rfl (hb hby down_tru_56)
        refine own_st st97 ?_
        show own_Out _ _ _ _ (T92.setTop (mkF m 59 #[.val (.ref a), .val (.long (Int64.ofNat q)), .second] []))
        have O98 : own_B Z h93 a (.ref (ck k)) (.ref ea) (.ref la) (Int32.ofNat k) (Int64.ofNat (own_sum ln k)) (Int32.ofNat (ln k)) (1048576 : Int32) := own_B_before hw W96 O78
        have N99 := Fr.snoc X94 N79 P1
        have Bl100 := own_Bl_wr Bl80 W96 (by have := hck (k + 1) (Nat.le_refl (k + 1)); omega)
        have F101 := own_AR_keep F81 (Keep.of_wr W96) (ninS (own_neA (by have := hck (k + 1) (Nat.le_refl (k + 1)); omega)) nin0)
        have F102 := own_AI_keep F82 (Keep.of_wr W96) (ninS (own_neA (by have := hck (k + 1) (Nat.le_refl (k + 1)); omega)) nin0)
        have Fc103 : ∀ i, i ≤ (k + 1) → own_AB Z h93 (ck i) (cap i) (ct i) := fun i hi => own_AB_keep (Fc83 i hi) (Keep.of_wr W96) (ninS (own_neA (by have := hck i hi; omega)) nin0)
        refine own_st (G := T92.setTop (mkF m 60 #[.val (.ref a), .val (.long (Int64.ofNat q)), .second] [(.ref a)])) (fun _ kk => XS.aloadN X94.here hx rfl (hb hby down_tru_59) rfl rfl kk) ?_
        obtain ⟨T104, X105, e106, st107⟩ := getF X94 hx hZ hown (host := "") (Or.inl (own_w hw 16 rfl)) Via.refl e95 (O98).2.2.1 (g := (mkF m 60 #[.val (.ref a), .val (.long (Int64.ofNat q)), .second] [(.ref a)])) rfl rfl (hb hby down_tru_60)
        refine own_st st107 ?_
        show own_Out _ _ _ _ (T104.setTop (mkF m 63 #[.val (.ref a), .val (.long (Int64.ofNat q)), .second] [(.ref ea)]))
        refine own_st (G := T104.setTop (mkF m 64 #[.val (.ref a), .val (.long (Int64.ofNat q)), .second] [(.ref a), (.ref ea)])) (fun _ kk => XS.aloadN X105.here hx rfl (hb hby down_tru_63) rfl rfl kk) ?_
        obtain ⟨T108, X109, e110, st111⟩ := getF X105 hx hZ hown (host := "") (Or.inl (own_w hw 90 rfl)) Via.refl e106 (O98).2.2.2.2.1 (g := (mkF m 64 #[.val (.ref a), .val (.long (Int64.ofNat q)), .second] [(.ref a), (.ref ea)])) rfl rfl (hb hby down_tru_64)
        refine own_st st111 ?_
        show own_Out _ _ _ _ (T108.setTop (mkF m 67 #[.val (.ref a), .val (.long (Int64.ofNat q)), .second] [(.int (Int32.ofNat k)), (.ref ea)]))
        refine own_st (G := T108.setTop (mkF m 68 #[.val (.ref a), .val (.long (Int64.ofNat q)), .second] [.null, (.int (Int32.ofNat k)), (.ref ea)])) (fun _ kk => XS.aconstNull X109.here hx rfl (hb hby down_tru_67) kk) ?_
        refine own_aastore X109 hx hZ e110 F101 (Or.inl rfl) (j := (Int32.ofNat k)) (i := k) (own_ixn (n := k) (by omega)).1 (own_ixn (n := k) (by omega)).2 (by omega) (hb hby down_tru_68) ?_
        intro T112 h113 X114 e115 W116 F117
        show own_Out _ _ _ _ (T112.setTop (mkF m 69 #[.val (.ref a), .val (.long (Int64.ofNat q)), .second] []))
        have N118 := Fr.snoc X114 N99 (by have := hck (k + 1) (Nat.le_refl (k + 1)); omega)
        have Bl119 := own_Bl_wr Bl100 W116 (by have := hck (k + 1) (Nat.le_refl (k + 1)); omega)
        have O120 := own_B_keep (Keep.of_wr W116) (ninS (own_neA (by have := hck (k + 1) (Nat.le_refl (k + 1)); omega)) nin0) O98
        have F121 := own_AI_keep F102 (Keep.of_wr W116) (ninS (own_neA (by have := hck (k + 1) (Nat.le_refl (k + 1)); omega)) nin0)
        have Fc122 : ∀ i, i ≤ (k + 1) → own_AB Z h113 (ck i) (cap i) (ct i) := fun i hi => own_AB_keep (Fc103 i hi) (Keep.of_wr W116) (ninS (own_neA (by have := hck i hi; omega)) nin0)
        refine own_st (G := T112.setTop (mkF m 0 #[.val (.ref a), .val (.long (Int64.ofNat q)), .second] [])) (fun _ kk => XS.goto X114.here hx rfl (pc0 := 69) (pc' := 0) rfl (hb hby down_tru_69) (by decide) (by decide) kk) ?_
        exact ih _ _ _ _ X114 e115 N118 Bl119 O120 F117 F121 (fun i hi => Fc122 i (by omega)) (own_UP_pop P) (by omega) (Nat.le_of_lt ((own_ltJ (by omega) (by have : own_sum ln (k + 1) ≤ own_sum ln (k + 1 + 1) := own_sum_mono ln (by omega); omega)).mp hc27)) (by have : own_sum ln (k + 1) ≤ own_sum ln (k + 1 + 1) := own_sum_mono ln (by omega); omega) (own_cat_pop hF)
      · skip
        refine own_st (G := T23.setTop (mkF m 72 #[.val (.ref a), .val (.long (Int64.ofNat q)), .second] [])) (fun _ kk => XS.ifYes X24.here hx rfl (pc0 := 6) (pc' := 72) rfl (hb hby down_tru_6) rfl (XT.ll_ge_t hc27) (by decide) (by decide) kk) ?_
        refine own_st (G := T23.setTop (mkF m 73 #[.val (.ref a), .val (.long (Int64.ofNat q)), .second] [(.ref a)])) (fun _ kk => XS.aloadN X24.here hx rfl (hb hby down_tru_72) rfl rfl kk) ?_
        refine own_st (G := T23.setTop (mkF m 74 #[.val (.ref a), .val (.long (Int64.ofNat q)), .second] [(.long (Int64.ofNat q)), (.ref a)])) (fun _ kk => XS.lloadN X24.here hx rfl (hb hby down_tru_73) rfl kk) ?_
        refine own_st (G := T23.setTop (mkF m 75 #[.val (.ref a), .val (.long (Int64.ofNat q)), .second] [(.ref a), (.long (Int64.ofNat q)), (.ref a)])) (fun _ kk => XS.aloadN X24.here hx rfl (hb hby down_tru_74) rfl rfl kk) ?_
        obtain ⟨T123, X124, e125, st126⟩ := getF X24 hx hZ hown (host := "") (Or.inl (own_w hw 43 rfl)) Via.refl e25 (O).2.2.2.2.2.1 (g := (mkF m 75 #[.val (.ref a), .val (.long (Int64.ofNat q)), .second] [(.ref a), (.long (Int64.ofNat q)), (.ref a)])) rfl rfl (hb hby down_tru_75)
        refine own_st st126 ?_
        show own_Out _ _ _ _ (T123.setTop (mkF m 78 #[.val (.ref a), .val (.long (Int64.ofNat q)), .second] [(.long (Int64.ofNat (own_sum ln (k + 1)))), (.long (Int64.ofNat q)), (.ref a)]))
        refine own_st (G := T123.setTop (mkF m 79 #[.val (.ref a), .val (.long (Int64.ofNat q)), .second] [(.long ((Int64.ofNat q) - (Int64.ofNat (own_sum ln (k + 1))))), (.ref a)])) (fun _ kk => XS.lsub X124.here hx rfl (hb hby down_tru_78) rfl kk) ?_
        have hsm : own_sum ln (k + 1) ≤ own_sum ln ((k + 1) + 1) := own_sum_mono ln (by omega)
        have hle127 : own_sum ln (k + 1) ≤ q := Nat.le_of_not_lt fun z => hc27 ((own_ltJ (by omega) (by omega)).mpr z)
        rw [show ((Int64.ofNat q) - (Int64.ofNat (own_sum ln (k + 1)))) = (Int64.ofNat (q - own_sum ln (k + 1))) from own_subJ (by omega) hle127]
        refine own_st (G := T123.setTop (mkF m 80 #[.val (.ref a), .val (.long (Int64.ofNat q)), .second] [(.int (Int64.ofNat (q - own_sum ln (k + 1))).toInt32), (.ref a)])) (fun _ kk => XS.l2i X124.here hx rfl (hb hby down_tru_79) rfl kk) ?_
        rw [show (Int64.ofNat (q - own_sum ln (k + 1))).toInt32 = (Int32.ofNat (q - own_sum ln (k + 1))) from own_i32 (by omega)]
        obtain ⟨T128, h129, X130, e131, W132, st133⟩ := putF X124 hx hZ hown (host := "") (Or.inl (own_w hw 32 rfl)) Via.refl e125 (O).2.2.2.2.2.2.1 (O).1 (Or.inl (own_w hw 33 rfl)) (own_w hw 3 rfl) (ty := .int) (by decide) rfl rfl (g := (mkF m 80 #[.val (.ref a), .val (.long (Int64.ofNat q)), .second] [(.int (Int32.ofNat (q - own_sum ln (k + 1)))), (.ref a)])) rfl rfl (hb hby down_tru_80)
        refine own_st st133 ?_
        show own_Out _ _ _ _ (T128.setTop (mkF m 83 #[.val (.ref a), .val (.long (Int64.ofNat q)), .second] []))
        have O134 : own_B Z h129 a (.ref (ck (k + 1))) (.ref ea) (.ref la) (Int32.ofNat (k + 1)) (Int64.ofNat (own_sum ln (k + 1))) (Int32.ofNat (q - own_sum ln (k + 1))) (1048576 : Int32) := own_B_length hw W132 O
        have N135 := Fr.snoc X130 N1 P1
        have Bl136 := own_Bl_wr Bl1 W132 (by have := hck (k + 1) (Nat.le_refl (k + 1)); omega)
        have F137 := own_AR_keep Fe (Keep.of_wr W132) (ninS (own_neA (by have := hck (k + 1) (Nat.le_refl (k + 1)); omega)) nin0)
        have F138 := own_AI_keep Fl (Keep.of_wr W132) (ninS (own_neA (by have := hck (k + 1) (Nat.le_refl (k + 1)); omega)) nin0)
        have Fc139 : ∀ i, i ≤ (k + 1) → own_AB Z h129 (ck i) (cap i) (ct i) := fun i hi => own_AB_keep (Fc i hi) (Keep.of_wr W132) (ninS (own_neA (by have := hck i hi; omega)) nin0)
        refine own_ret0 X130 hx hret hlk (hb hby down_tru_83) (by decide) (by decide) ?_
        rw [e131]
        exact ⟨rfl, N135, Bl136, own_V_cut O134 F137 F138 Fc139 P hn hle127 hq (fun y hy => hF y (by omega))⟩
  exact lp n _ _ _ fe X0 e0 N0 Bl0 O Fe Fl Fc P hn hq0 hs0 hF
theorem pn_own_ini : plainFor (⟨"com/example/kennel/kennel/Utf8Builder", "<init>", "(I)V"⟩ : MethodName) = true := by first | exact plainFor_of_name (by first | (simp [plainName, overriddenIn]; done) | decide +kernel) | decide +kernel
theorem down_ini_0 : decode prog_48_method_2_code 0 = .ok (.aload_n 0, 1) := by decide +kernel
theorem down_ini_1 : decode prog_48_method_2_code 1 = .ok (.invokespecial 10, 3) := by decide +kernel
theorem down_ini_4 : decode prog_48_method_2_code 4 = .ok (.aload_n 0, 1) := by decide +kernel
theorem down_ini_5 : decode prog_48_method_2_code 5 = .ok (.sipush 256, 3) := by decide +kernel
theorem down_ini_8 : decode prog_48_method_2_code 8 = .ok (.newarray .byte, 2) := by decide +kernel
theorem down_ini_10 : decode prog_48_method_2_code 10 = .ok (.putfield 15, 3) := by decide +kernel
theorem down_ini_13 : decode prog_48_method_2_code 13 = .ok (.aload_n 0, 1) := by decide +kernel
theorem down_ini_14 : decode prog_48_method_2_code 14 = .ok (.iconst 4, 1) := by decide +kernel
theorem down_ini_15 : decode prog_48_method_2_code 15 = .ok (.anewarray 19, 3) := by decide +kernel
theorem down_ini_18 : decode prog_48_method_2_code 18 = .ok (.putfield 20, 3) := by decide +kernel
theorem down_ini_21 : decode prog_48_method_2_code 21 = .ok (.aload_n 0, 1) := by decide +kernel
theorem down_ini_22 : decode prog_48_method_2_code 22 = .ok (.iconst 4, 1) := by decide +kernel
theorem down_ini_23 : decode prog_48_method_2_code 23 = .ok (.newarray .int, 2) := by decide +kernel
theorem down_ini_25 : decode prog_48_method_2_code 25 = .ok (.putfield 24, 3) := by decide +kernel
theorem down_ini_28 : decode prog_48_method_2_code 28 = .ok (.aload_n 0, 1) := by decide +kernel
theorem down_ini_29 : decode prog_48_method_2_code 29 = .ok (.iload_n 1, 1) := by decide +kernel
theorem down_ini_30 : decode prog_48_method_2_code 30 = .ok (.putfield 28, 3) := by decide +kernel
theorem down_ini_33 : decode prog_48_method_2_code 33 = .ok (.return_, 1) := by decide +kernel
def Q_own_ini (Z : State)  (a : Nat) (F : Nat → Int32) (h0 : Heap) (n0 : Nat) (v : Option Value) (h : Heap) (L : List Loc) : Prop := v = none ∧ Fr n0 L ∧ own_Bl h0 h a ∧ own_V Z h a n0 0 0 F 0
set_option maxRecDepth 65536 in
set_option maxHeartbeats 40000000 in
theorem own_ini (l : Launch) (Z : State) (a0 : Array Value) (hw : ∀ d ∈ tables_1, d.before a0 Z = true) (ws : List Jvm.Cond)  (a : Nat) (F : Nat → Int32) (h0 : Heap) (n0 : Nat) (ga : n0 ≤ a) (O : own_B Z h0 a .null .null .null (0 : Int32) (0 : Int64) (0 : Int32) (0 : Int32)) :
    MetFree l (⟨"com/example/kennel/kennel/Utf8Builder", "<init>", "(I)V"⟩ : MethodName) (head1 (Jvm.Cond.code (⟨"com/example/kennel/kennel/Utf8Builder", "<init>", "(I)V"⟩ : MethodName) prog_48_method_2_code 2 none :: ws) ({ frames := 1, cells := 3, slots := 264, locals := 12 } : Room)) (fun aa U => aa = #[(.ref a), (.int (1048576 : Int32))] ∧ Z.Warmed39 U.vm ∧ U.heap = h0) (fun _ _ _ _ _ => True) (fun _ U o U' => ∃ v L, o = .returned v ∧ Q_own_ini Z a F h0 n0 v U'.heap L ∧ FrameEnd U o U' L ({ frames := 1, cells := 3, slots := 264, locals := 12 } : Room).cells ({ frames := 1, cells := 3, slots := 264, locals := 12 } : Room).slots) := by
  refine own_body (x := (⟨"com/example/kennel/kennel/Utf8Builder", "<init>", "(I)V"⟩ : MethodName)) (maxL := 2) (as' := #[(.ref a), (.int (1048576 : Int32))]) (Q := Q_own_ini Z a F h0 n0) pn_own_ini #[.val (.ref a), .val (.int (1048576 : Int32))] (fun m => by first | (simp [entryFrame, mkF, argsToLocals, Value.category]; done) | rfl) ?_
  intro p e s m below meth c T0 X0 hx hby hml hret hlk hown hnm hZ e0
  replace hml : c.maxLocals = 2 := hml
  replace hown : s.vm.findClass "com/example/kennel/kennel/Utf8Builder" = some m.cls := hown
  have N0 := Fr.nil n0
  have Bl0 := own_Bl_refl (h := h0) (a := a)
  refine own_st (G := T0.setTop (mkF m 1 #[.val (.ref a), .val (.int (1048576 : Int32))] [(.ref a)])) (fun _ kk => XS.aloadN X0.here hx rfl (hb hby down_ini_0) rfl rfl kk) ?_
  obtain ⟨T1, X2, e3, st4⟩ := initO X0 hx hZ hown (own_w hw 9 rfl) (own_w hw 10 rfl) (own_w hw 11 rfl) e0 (g := (mkF m 1 #[.val (.ref a), .val (.int (1048576 : Int32))] [(.ref a)])) rfl (by rw [hml]; rfl) rfl (hb hby down_ini_1) (by decide) (W := 0) (by show 2 * 0 + _ ≤ _; exact Nat.le_of_eq rfl) (by decide)
  refine own_st st4 ?_
  show own_Out _ _ _ _ (T1.setTop (mkF m 4 #[.val (.ref a), .val (.int (1048576 : Int32))] []))
  refine own_st (G := T1.setTop (mkF m 5 #[.val (.ref a), .val (.int (1048576 : Int32))] [(.ref a)])) (fun _ kk => XS.aloadN X2.here hx rfl (hb hby down_ini_4) rfl rfl kk) ?_
  refine own_st (G := T1.setTop (mkF m 8 #[.val (.ref a), .val (.int (1048576 : Int32))] [(.int (256 : Int32)), (.ref a)])) (fun _ kk => XT.sipushV X2.here hx rfl (256 : Int32) (hb hby down_ini_5) (by decide) kk) ?_
  obtain ⟨T5, h6, cA7, X8, e9, E10, A11, EX16, st12⟩ := newPE X2 hx hZ (own_w hw 0 rfl) e3 (g := (mkF m 8 #[.val (.ref a), .val (.int (1048576 : Int32))] [(.int (256 : Int32)), (.ref a)])) rfl (hb hby down_ini_8) rfl (by decide) (cap := 256) (by decide) (by decide) (by decide) (by decide) (ad := "[B") rfl
  obtain ⟨a13, g14⟩ : ∃ z, z = h0.size := ⟨_, rfl⟩
  rw [← g14] at A11 st12 EX16
  refine own_st st12 ?_
  show own_Out _ _ _ _ (T5.setTop (mkF m 10 #[.val (.ref a), .val (.int (1048576 : Int32))] [(.ref a13), (.ref a)]))
  have gta13 : a < a13 := by rw [g14]; exact (O).1.lt
  have O17 := own_B_ext E10 O
  have Bl18 := own_Bl_ext Bl0 E10
  have F19 := own_AB_new (n := 256) A11 EX16 (by decide) rfl
  obtain ⟨T20, h21, X22, e23, W24, st25⟩ := putF X8 hx hZ hown (host := "") (Or.inl (own_w hw 12 rfl)) Via.refl e9 (O17).2.1 (O17).1 (Or.inl (own_w hw 13 rfl)) (own_w hw 3 rfl) (ty := .array (.byte)) (by decide) rfl rfl (g := (mkF m 10 #[.val (.ref a), .val (.int (1048576 : Int32))] [(.ref a13), (.ref a)])) rfl rfl (hb hby down_ini_10)
  refine own_st st25 ?_
  show own_Out _ _ _ _ (T20.setTop (mkF m 13 #[.val (.ref a), .val (.int (1048576 : Int32))] []))
  have O26 : own_B Z h21 a (.ref a13) .null .null (0 : Int32) (0 : Int64) (0 : Int32) (0 : Int32) := own_B_bytes hw W24 O17
  have N27 := Fr.snoc X22 N0 ga
  have Bl28 := own_Bl_wr Bl18 W24 (Nat.le_refl _)
  have F29 := own_AB_other F19 W24 (own_neA (Or.inr gta13))
  refine own_st (G := T20.setTop (mkF m 14 #[.val (.ref a), .val (.int (1048576 : Int32))] [(.ref a)])) (fun _ kk => XS.aloadN X22.here hx rfl (hb hby down_ini_13) rfl rfl kk) ?_
  refine own_st (G := T20.setTop (mkF m 15 #[.val (.ref a), .val (.int (1048576 : Int32))] [(.int (4 : Int32)), (.ref a)])) (fun _ kk => XT.iconstV X22.here hx rfl (4 : Int32) (hb hby down_ini_14) (by decide) kk) ?_
  obtain ⟨T30, h31, cA32, X33, e34, E35, A36, EX41, Ov37, st38⟩ := newRA X22 hx hZ (ty := .byte) hown (C := "[B") rfl (own_w hw 14 rfl) (own_w hw 15 rfl) e23 (g := (mkF m 15 #[.val (.ref a), .val (.int (1048576 : Int32))] [(.int (4 : Int32)), (.ref a)])) rfl (hb hby down_ini_15) rfl (by decide) (cap := 4) (by decide) (by decide) (by decide) (by decide) (ad := "[[B") rfl
  obtain ⟨a39, g40⟩ : ∃ z, z = h21.size := ⟨_, rfl⟩
  rw [← g40] at A36 st38
  refine own_st st38 ?_
  show own_Out _ _ _ _ (T30.setTop (mkF m 18 #[.val (.ref a), .val (.int (1048576 : Int32))] [(.ref a39), (.ref a)]))
  have gta39 : a < a39 := by rw [g40]; exact (O26).1.lt
  have lta13_a39 : a13 < a39 := by rw [g40]; exact own_AB_lt F29
  have O42 := own_B_ext E35 O26
  have Bl43 := own_Bl_ext Bl28 E35
  have F45 := own_AB_ext F29 E35
  have F44 := own_AR_new (n := 4) A36 Ov37 (by decide) rfl
  obtain ⟨T46, h47, X48, e49, W50, st51⟩ := putF X33 hx hZ hown (host := "") (Or.inl (own_w hw 16 rfl)) Via.refl e34 (O42).2.2.1 (O42).1 (Or.inl (own_w hw 17 rfl)) (own_w hw 3 rfl) (ty := .array (.array (.byte))) (by decide) rfl rfl (g := (mkF m 18 #[.val (.ref a), .val (.int (1048576 : Int32))] [(.ref a39), (.ref a)])) rfl rfl (hb hby down_ini_18)
  refine own_st st51 ?_
  show own_Out _ _ _ _ (T46.setTop (mkF m 21 #[.val (.ref a), .val (.int (1048576 : Int32))] []))
  have O52 : own_B Z h47 a (.ref a13) (.ref a39) .null (0 : Int32) (0 : Int64) (0 : Int32) (0 : Int32) := own_B_earlier hw W50 O42
  have N53 := Fr.snoc X48 N27 ga
  have Bl54 := own_Bl_wr Bl43 W50 (Nat.le_refl _)
  have F55 := own_AB_other F45 W50 (own_neA (Or.inr gta13))
  have F56 := own_AR_other F44 W50 (own_neA (Or.inr gta39))
  refine own_st (G := T46.setTop (mkF m 22 #[.val (.ref a), .val (.int (1048576 : Int32))] [(.ref a)])) (fun _ kk => XS.aloadN X48.here hx rfl (hb hby down_ini_21) rfl rfl kk) ?_
  refine own_st (G := T46.setTop (mkF m 23 #[.val (.ref a), .val (.int (1048576 : Int32))] [(.int (4 : Int32)), (.ref a)])) (fun _ kk => XT.iconstV X48.here hx rfl (4 : Int32) (hb hby down_ini_22) (by decide) kk) ?_
  obtain ⟨T57, h58, cA59, X60, e61, E62, A63, st64⟩ := newP X48 hx hZ (own_w hw 18 rfl) e49 (g := (mkF m 23 #[.val (.ref a), .val (.int (1048576 : Int32))] [(.int (4 : Int32)), (.ref a)])) rfl (hb hby down_ini_23) rfl (by decide) (cap := 4) (by decide) (by decide) (by decide) (by decide)
  obtain ⟨a65, g66⟩ : ∃ z, z = h47.size := ⟨_, rfl⟩
  rw [← g66] at A63 st64
  have S67 : (newA cA59 .int (4 : Int32)).slots.size = 4 := (sz_new _ _ _).trans (by decide)
  refine own_st st64 ?_
  show own_Out _ _ _ _ (T57.setTop (mkF m 25 #[.val (.ref a), .val (.int (1048576 : Int32))] [(.ref a65), (.ref a)]))
  have gta65 : a < a65 := by rw [g66]; exact (O52).1.lt
  have lta13_a65 : a13 < a65 := by rw [g66]; exact own_AB_lt F55
  have lta39_a65 : a39 < a65 := by rw [g66]; exact own_AR_lt F56
  have O68 := own_B_ext E62 O52
  have Bl69 := own_Bl_ext Bl54 E62
  have F71 := own_AB_ext F55 E62
  have F72 := own_AR_ext F56 E62
  have F70 := own_AI_new (n := 4) A63 (by decide) rfl
  obtain ⟨T73, h74, X75, e76, W77, st78⟩ := putF X60 hx hZ hown (host := "") (Or.inl (own_w hw 19 rfl)) Via.refl e61 (O68).2.2.2.1 (O68).1 (Or.inl (own_w hw 20 rfl)) (own_w hw 3 rfl) (ty := .array (.int)) (by decide) rfl rfl (g := (mkF m 25 #[.val (.ref a), .val (.int (1048576 : Int32))] [(.ref a65), (.ref a)])) rfl rfl (hb hby down_ini_25)
  refine own_st st78 ?_
  show own_Out _ _ _ _ (T73.setTop (mkF m 28 #[.val (.ref a), .val (.int (1048576 : Int32))] []))
  have O79 : own_B Z h74 a (.ref a13) (.ref a39) (.ref a65) (0 : Int32) (0 : Int64) (0 : Int32) (0 : Int32) := own_B_earlierLengths hw W77 O68
  have N80 := Fr.snoc X75 N53 ga
  have Bl81 := own_Bl_wr Bl69 W77 (Nat.le_refl _)
  have F82 := own_AB_other F71 W77 (own_neA (Or.inr gta13))
  have F83 := own_AR_other F72 W77 (own_neA (Or.inr gta39))
  have F84 := own_AI_other F70 W77 (own_neA (Or.inr gta65))
  refine own_st (G := T73.setTop (mkF m 29 #[.val (.ref a), .val (.int (1048576 : Int32))] [(.ref a)])) (fun _ kk => XS.aloadN X75.here hx rfl (hb hby down_ini_28) rfl rfl kk) ?_
  refine own_st (G := T73.setTop (mkF m 30 #[.val (.ref a), .val (.int (1048576 : Int32))] [(.int (1048576 : Int32)), (.ref a)])) (fun _ kk => XS.iloadN X75.here hx rfl (hb hby down_ini_29) rfl kk) ?_
  obtain ⟨T85, h86, X87, e88, W89, st90⟩ := putF X75 hx hZ hown (host := "") (Or.inl (own_w hw 21 rfl)) Via.refl e76 (O79).2.2.2.2.2.2.2 (O79).1 (Or.inr ⟨(own_w hw 22 rfl), rfl, hnm⟩) (own_w hw 3 rfl) (ty := .int) (by decide) rfl rfl (g := (mkF m 30 #[.val (.ref a), .val (.int (1048576 : Int32))] [(.int (1048576 : Int32)), (.ref a)])) rfl rfl (hb hby down_ini_30)
  refine own_st st90 ?_
  show own_Out _ _ _ _ (T85.setTop (mkF m 33 #[.val (.ref a), .val (.int (1048576 : Int32))] []))
  have O91 : own_B Z h86 a (.ref a13) (.ref a39) (.ref a65) (0 : Int32) (0 : Int64) (0 : Int32) (1048576 : Int32) := own_B_most hw W89 O79
  have N92 := Fr.snoc X87 N80 ga
  have Bl93 := own_Bl_wr Bl81 W89 (Nat.le_refl _)
  have F94 := own_AB_other F82 W89 (own_neA (Or.inr gta13))
  have F95 := own_AR_other F83 W89 (own_neA (Or.inr gta39))
  have F96 := own_AI_other F84 W89 (own_neA (Or.inr gta65))
  refine own_ret0 X87 hx hret hlk (hb hby down_ini_33) (by decide) (by decide) ?_
  rw [e88]
  exact ⟨rfl, N92, Bl93, own_V_init O91 F95 F96 F94 ga gta13 lta13_a39 lta39_a65⟩
theorem pn_own_ckl : plainFor (⟨"java/util/Arrays", "checkLength", "(II)V"⟩ : MethodName) = true := by first | exact plainFor_of_name (by first | (simp [plainName, overriddenIn]; done) | decide +kernel) | decide +kernel
theorem down_ckl_0 : decode jdk_65_method_131_code 0 = .ok (.iload_n 1, 1) := by decide +kernel
theorem down_ckl_1 : decode jdk_65_method_131_code 1 = .ok (.iload_n 0, 1) := by decide +kernel
theorem down_ckl_2 : decode jdk_65_method_131_code 2 = .ok (.if_icmp .ge 35, 3) := by decide +kernel
theorem down_ckl_37 : decode jdk_65_method_131_code 37 = .ok (.return_, 1) := by decide +kernel
def Q_own_ckl (Z : State)  (k : Nat) (h0 : Heap) (n0 : Nat) (v : Option Value) (h : Heap) (L : List Loc) : Prop := v = none ∧ L = [] ∧ h = h0
set_option maxRecDepth 65536 in
set_option maxHeartbeats 40000000 in
theorem own_ckl (l : Launch) (Z : State) (a0 : Array Value) (hw : ∀ d ∈ tables_1, d.before a0 Z = true) (ws : List Jvm.Cond)  (k : Nat) (h0 : Heap) (n0 : Nat) (hk : k ≤ 1534) :
    MetFree l (⟨"java/util/Arrays", "checkLength", "(II)V"⟩ : MethodName) (head1 (Jvm.Cond.code (⟨"java/util/Arrays", "checkLength", "(II)V"⟩ : MethodName) jdk_65_method_131_code 2 none :: ws) ({ frames := 0, cells := 0, slots := 0, locals := 0 } : Room)) (fun aa U => aa = #[(.int (0 : Int32)), (.int (Int32.ofNat k))] ∧ Z.Warmed39 U.vm ∧ U.heap = h0) (fun _ _ _ _ _ => True) (fun _ U o U' => ∃ v L, o = .returned v ∧ Q_own_ckl Z k h0 n0 v U'.heap L ∧ FrameEnd U o U' L ({ frames := 0, cells := 0, slots := 0, locals := 0 } : Room).cells ({ frames := 0, cells := 0, slots := 0, locals := 0 } : Room).slots) := by
  refine own_body (x := (⟨"java/util/Arrays", "checkLength", "(II)V"⟩ : MethodName)) (maxL := 2) (as' := #[(.int (0 : Int32)), (.int (Int32.ofNat k))]) (Q := Q_own_ckl Z k h0 n0) pn_own_ckl #[.val (.int (0 : Int32)), .val (.int (Int32.ofNat k))] (fun m => by first | (simp [entryFrame, mkF, argsToLocals, Value.category]; done) | rfl) ?_
  intro p e s m below meth c T0 X0 hx hby hml hret hlk hown hnm hZ e0
  replace hml : c.maxLocals = 2 := hml
  replace hown : s.vm.findClass "java/util/Arrays" = some m.cls := hown
  have N0 := Fr.nil n0
  refine own_st (G := T0.setTop (mkF m 1 #[.val (.int (0 : Int32)), .val (.int (Int32.ofNat k))] [(.int (Int32.ofNat k))])) (fun _ kk => XS.iloadN X0.here hx rfl (hb hby down_ckl_0) rfl kk) ?_
  refine own_st (G := T0.setTop (mkF m 2 #[.val (.int (0 : Int32)), .val (.int (Int32.ofNat k))] [(.int (0 : Int32)), (.int (Int32.ofNat k))])) (fun _ kk => XS.iloadN X0.here hx rfl (hb hby down_ckl_1) rfl kk) ?_
  have hk1 : ¬ ((Int32.ofNat k) < (0 : Int32)) := (own_ixn (by omega)).1
  refine own_st (G := T0.setTop (mkF m 37 #[.val (.int (0 : Int32)), .val (.int (Int32.ofNat k))] [])) (fun _ kk => XS.icmpYes X0.here hx rfl (pc0 := 2) (pc' := 37) rfl (hb hby down_ckl_2) rfl (XT.ii_ge_t hk1) (by decide) (by decide) kk) ?_
  refine own_ret0 X0 hx hret hlk (hb hby down_ckl_37) (by decide) (by decide) ?_
  exact ⟨rfl, rfl, e0⟩
theorem pn_own_corb : plainFor (⟨"java/util/Arrays", "copyOfRangeByte", "([BII)[B"⟩ : MethodName) = true := by first | exact plainFor_of_name (by first | (simp [plainName, overriddenIn]; done) | decide +kernel) | decide +kernel
theorem down_corb_0 : decode jdk_65_method_133_code 0 = .ok (.iload_n 1, 1) := by decide +kernel
theorem down_corb_1 : decode jdk_65_method_133_code 1 = .ok (.iload_n 2, 1) := by decide +kernel
theorem down_corb_2 : decode jdk_65_method_133_code 2 = .ok (.invokestatic 343, 3) := by decide +kernel
theorem down_corb_5 : decode jdk_65_method_133_code 5 = .ok (.iload_n 2, 1) := by decide +kernel
theorem down_corb_6 : decode jdk_65_method_133_code 6 = .ok (.iload_n 1, 1) := by decide +kernel
theorem down_corb_7 : decode jdk_65_method_133_code 7 = .ok (.isub, 1) := by decide +kernel
theorem down_corb_8 : decode jdk_65_method_133_code 8 = .ok (.istore_n 3, 1) := by decide +kernel
theorem down_corb_9 : decode jdk_65_method_133_code 9 = .ok (.iload_n 3, 1) := by decide +kernel
theorem down_corb_10 : decode jdk_65_method_133_code 10 = .ok (.newarray .byte, 2) := by decide +kernel
theorem down_corb_12 : decode jdk_65_method_133_code 12 = .ok (.astore 4, 2) := by decide +kernel
theorem down_corb_14 : decode jdk_65_method_133_code 14 = .ok (.aload_n 0, 1) := by decide +kernel
theorem down_corb_15 : decode jdk_65_method_133_code 15 = .ok (.iload_n 1, 1) := by decide +kernel
theorem down_corb_16 : decode jdk_65_method_133_code 16 = .ok (.aload 4, 2) := by decide +kernel
theorem down_corb_18 : decode jdk_65_method_133_code 18 = .ok (.iconst 0, 1) := by decide +kernel
theorem down_corb_19 : decode jdk_65_method_133_code 19 = .ok (.aload_n 0, 1) := by decide +kernel
theorem down_corb_20 : decode jdk_65_method_133_code 20 = .ok (.arraylength, 1) := by decide +kernel
theorem down_corb_21 : decode jdk_65_method_133_code 21 = .ok (.iload_n 1, 1) := by decide +kernel
theorem down_corb_22 : decode jdk_65_method_133_code 22 = .ok (.isub, 1) := by decide +kernel
theorem down_corb_23 : decode jdk_65_method_133_code 23 = .ok (.iload_n 3, 1) := by decide +kernel
theorem down_corb_24 : decode jdk_65_method_133_code 24 = .ok (.invokestatic 304, 3) := by decide +kernel
theorem down_corb_27 : decode jdk_65_method_133_code 27 = .ok (.invokestatic 150, 3) := by decide +kernel
theorem down_corb_30 : decode jdk_65_method_133_code 30 = .ok (.aload 4, 2) := by decide +kernel
theorem down_corb_32 : decode jdk_65_method_133_code 32 = .ok (.areturn, 1) := by decide +kernel
def Q_own_corb (Z : State)  (b k cp : Nat) (fb : Nat → Int32) (h0 : Heap) (n0 : Nat) (v : Option Value) (h : Heap) (L : List Loc) : Prop := ∃ o : Nat, v = some (.ref o) ∧ Fr n0 L ∧ Ext h0 h ∧ h0.size ≤ o ∧ own_AB Z h o k fb
set_option maxRecDepth 65536 in
set_option maxHeartbeats 40000000 in
theorem own_corb (l : Launch) (Z : State) (a0 : Array Value) (hw : ∀ d ∈ tables_1, d.before a0 Z = true) (ws : List Jvm.Cond)  (b k cp : Nat) (fb : Nat → Int32) (h0 : Heap) (n0 : Nat) (Fb : own_AB Z h0 b cp fb) (hk : k ≤ cp) (hcp : cp ≤ 1534) (g0 : n0 ≤ h0.size) :
    MetFree l (⟨"java/util/Arrays", "copyOfRangeByte", "([BII)[B"⟩ : MethodName) (head1 (Jvm.Cond.code (⟨"java/util/Arrays", "copyOfRangeByte", "([BII)[B"⟩ : MethodName) jdk_65_method_133_code 5 (some (.array (.byte))) :: ws) ({ frames := 1, cells := 1, slots := 1534, locals := 24 } : Room)) (fun aa U => aa = #[(.ref b), (.int (0 : Int32)), (.int (Int32.ofNat k))] ∧ Z.Warmed39 U.vm ∧ U.heap = h0) (fun _ _ _ _ _ => True) (fun _ U o U' => ∃ v L, o = .returned v ∧ Q_own_corb Z b k cp fb h0 n0 v U'.heap L ∧ FrameEnd U o U' L ({ frames := 1, cells := 1, slots := 1534, locals := 24 } : Room).cells ({ frames := 1, cells := 1, slots := 1534, locals := 24 } : Room).slots) := by
  refine own_body (x := (⟨"java/util/Arrays", "copyOfRangeByte", "([BII)[B"⟩ : MethodName)) (maxL := 5) (as' := #[(.ref b), (.int (0 : Int32)), (.int (Int32.ofNat k))]) (Q := Q_own_corb Z b k cp fb h0 n0) pn_own_corb #[.val (.ref b), .val (.int (0 : Int32)), .val (.int (Int32.ofNat k)), .unset, .unset] (fun m => by first | (simp [entryFrame, mkF, argsToLocals, Value.category]; done) | rfl) ?_
  intro p e s m below meth c T0 X0 hx hby hml hret hlk hown hnm hZ e0
  replace hml : c.maxLocals = 5 := hml
  replace hown : s.vm.findClass "java/util/Arrays" = some m.cls := hown
  have N0 := Fr.nil n0
  refine own_st (G := T0.setTop (mkF m 1 #[.val (.ref b), .val (.int (0 : Int32)), .val (.int (Int32.ofNat k)), .unset, .unset] [(.int (0 : Int32))])) (fun _ kk => XS.iloadN X0.here hx rfl (hb hby down_corb_0) rfl kk) ?_
  refine own_st (G := T0.setTop (mkF m 2 #[.val (.ref b), .val (.int (0 : Int32)), .val (.int (Int32.ofNat k)), .unset, .unset] [(.int (Int32.ofNat k)), (.int (0 : Int32))])) (fun _ kk => XS.iloadN X0.here hx rfl (hb hby down_corb_1) rfl kk) ?_
  refine own_callS X0 hx hZ (y := (⟨"java/util/Arrays", "checkLength", "(II)V"⟩ : MethodName)) (as' := [(.int (0 : Int32)), (.int (Int32.ofNat k))]) hown (own_w hw 73 rfl) (own_w hw 74 rfl) (own_w hw 68 rfl) (own_w hw 75 rfl) (by decide) (own_ckl l Z a0 hw [] k h0 n0 (by omega)) 0 (by decide) (by decide) (by decide) (by decide) (rest := []) (by rw [hml]; rfl) (lenOf (by decide : parseMethodDescriptor "(II)V" = some ⟨[.int, .int], none⟩) rfl) rfl (Nat.le_of_eq rfl) (hb hby down_corb_2) e0 ?_
  intro T3 L4 v6 X5 hQ
  obtain ⟨rfl, rfl, eq1⟩ := hQ
  show own_Out _ _ _ _ (T3.setTop (mkF m 5 #[.val (.ref b), .val (.int (0 : Int32)), .val (.int (Int32.ofNat k)), .unset, .unset] []))
  have N2 := Fr.app N0 (Fr.nil n0)
  refine own_st (G := T3.setTop (mkF m 6 #[.val (.ref b), .val (.int (0 : Int32)), .val (.int (Int32.ofNat k)), .unset, .unset] [(.int (Int32.ofNat k))])) (fun _ kk => XS.iloadN X5.here hx rfl (hb hby down_corb_5) rfl kk) ?_
  refine own_st (G := T3.setTop (mkF m 7 #[.val (.ref b), .val (.int (0 : Int32)), .val (.int (Int32.ofNat k)), .unset, .unset] [(.int (0 : Int32)), (.int (Int32.ofNat k))])) (fun _ kk => XS.iloadN X5.here hx rfl (hb hby down_corb_6) rfl kk) ?_
  refine own_st (G := T3.setTop (mkF m 8 #[.val (.ref b), .val (.int (0 : Int32)), .val (.int (Int32.ofNat k)), .unset, .unset] [(.int ((Int32.ofNat k) - (0 : Int32)))])) (fun _ kk => XS.isub X5.here hx rfl (hb hby down_corb_7) rfl kk) ?_
  rw [show ((Int32.ofNat k) - (0 : Int32)) = (Int32.ofNat k) from own_sub0I _]
  refine own_st (G := T3.setTop (mkF m 9 #[.val (.ref b), .val (.int (0 : Int32)), .val (.int (Int32.ofNat k)), .val (.int (Int32.ofNat k)), .unset] [])) (fun _ kk => XS.istoreN X5.here hx rfl (hb hby down_corb_8) rfl (l' := #[.val (.ref b), .val (.int (0 : Int32)), .val (.int (Int32.ofNat k)), .val (.int (Int32.ofNat k)), .unset]) rfl kk) ?_
  refine own_st (G := T3.setTop (mkF m 10 #[.val (.ref b), .val (.int (0 : Int32)), .val (.int (Int32.ofNat k)), .val (.int (Int32.ofNat k)), .unset] [(.int (Int32.ofNat k))])) (fun _ kk => XS.iloadN X5.here hx rfl (hb hby down_corb_9) rfl kk) ?_
  obtain ⟨T7, h8, cA9, X10, e11, E12, A13, EX18, st14⟩ := newPE X5 hx hZ (own_w hw 0 rfl) eq1 (g := (mkF m 10 #[.val (.ref b), .val (.int (0 : Int32)), .val (.int (Int32.ofNat k)), .val (.int (Int32.ofNat k)), .unset] [(.int (Int32.ofNat k))])) rfl (hb hby down_corb_10) rfl (own_ixn (n := k) (by omega)).1 (cap := 1534) (Nat.le_trans (Nat.le_of_eq (own_ixn (n := k) (by omega)).2) (by omega)) (by decide) (by decide) (by decide) (ad := "[B") rfl
  obtain ⟨a15, g16⟩ : ∃ z, z = h0.size := ⟨_, rfl⟩
  rw [← g16] at A13 st14 EX18
  refine own_st st14 ?_
  show own_Out _ _ _ _ (T7.setTop (mkF m 12 #[.val (.ref b), .val (.int (0 : Int32)), .val (.int (Int32.ofNat k)), .val (.int (Int32.ofNat k)), .unset] [(.ref a15)]))
  have go : h0.size ≤ a15 := Nat.le_of_eq g16.symm
  have go0 : n0 ≤ a15 := Nat.le_trans g0 go
  have F19 := own_AB_new A13 EX18 (own_ixn (n := k) (by omega)).1 (own_ixn (n := k) (by omega)).2
  have F20 := own_AB_ext Fb E12
  refine own_st (G := T7.setTop (mkF m 14 #[.val (.ref b), .val (.int (0 : Int32)), .val (.int (Int32.ofNat k)), .val (.int (Int32.ofNat k)), .val (.ref a15)] [])) (fun _ kk => XS.astore X10.here hx rfl (hb hby down_corb_12) rfl rfl (l' := #[.val (.ref b), .val (.int (0 : Int32)), .val (.int (Int32.ofNat k)), .val (.int (Int32.ofNat k)), .val (.ref a15)]) rfl kk) ?_
  refine own_st (G := T7.setTop (mkF m 15 #[.val (.ref b), .val (.int (0 : Int32)), .val (.int (Int32.ofNat k)), .val (.int (Int32.ofNat k)), .val (.ref a15)] [(.ref b)])) (fun _ kk => XS.aloadN X10.here hx rfl (hb hby down_corb_14) rfl rfl kk) ?_
  refine own_st (G := T7.setTop (mkF m 16 #[.val (.ref b), .val (.int (0 : Int32)), .val (.int (Int32.ofNat k)), .val (.int (Int32.ofNat k)), .val (.ref a15)] [(.int (0 : Int32)), (.ref b)])) (fun _ kk => XS.iloadN X10.here hx rfl (hb hby down_corb_15) rfl kk) ?_
  refine own_st (G := T7.setTop (mkF m 18 #[.val (.ref b), .val (.int (0 : Int32)), .val (.int (Int32.ofNat k)), .val (.int (Int32.ofNat k)), .val (.ref a15)] [(.ref a15), (.int (0 : Int32)), (.ref b)])) (fun _ kk => XS.aload X10.here hx rfl (hb hby down_corb_16) rfl rfl kk) ?_
  refine own_st (G := T7.setTop (mkF m 19 #[.val (.ref b), .val (.int (0 : Int32)), .val (.int (Int32.ofNat k)), .val (.int (Int32.ofNat k)), .val (.ref a15)] [(.int (0 : Int32)), (.ref a15), (.int (0 : Int32)), (.ref b)])) (fun _ kk => XT.iconstV X10.here hx rfl (0 : Int32) (hb hby down_corb_18) (by decide) kk) ?_
  refine own_st (G := T7.setTop (mkF m 20 #[.val (.ref b), .val (.int (0 : Int32)), .val (.int (Int32.ofNat k)), .val (.int (Int32.ofNat k)), .val (.ref a15)] [(.ref b), (.int (0 : Int32)), (.ref a15), (.int (0 : Int32)), (.ref b)])) (fun _ kk => XS.aloadN X10.here hx rfl (hb hby down_corb_19) rfl rfl kk) ?_
  refine own_lenB X10 hx hZ e11 F20 (z := (Int32.ofNat cp)) rfl (hb hby down_corb_20) ?_
  show own_Out _ _ _ _ (T7.setTop (mkF m 21 #[.val (.ref b), .val (.int (0 : Int32)), .val (.int (Int32.ofNat k)), .val (.int (Int32.ofNat k)), .val (.ref a15)] [(.int (Int32.ofNat cp)), (.int (0 : Int32)), (.ref a15), (.int (0 : Int32)), (.ref b)]))
  refine own_st (G := T7.setTop (mkF m 22 #[.val (.ref b), .val (.int (0 : Int32)), .val (.int (Int32.ofNat k)), .val (.int (Int32.ofNat k)), .val (.ref a15)] [(.int (0 : Int32)), (.int (Int32.ofNat cp)), (.int (0 : Int32)), (.ref a15), (.int (0 : Int32)), (.ref b)])) (fun _ kk => XS.iloadN X10.here hx rfl (hb hby down_corb_21) rfl kk) ?_
  refine own_st (G := T7.setTop (mkF m 23 #[.val (.ref b), .val (.int (0 : Int32)), .val (.int (Int32.ofNat k)), .val (.int (Int32.ofNat k)), .val (.ref a15)] [(.int ((Int32.ofNat cp) - (0 : Int32))), (.int (0 : Int32)), (.ref a15), (.int (0 : Int32)), (.ref b)])) (fun _ kk => XS.isub X10.here hx rfl (hb hby down_corb_22) rfl kk) ?_
  rw [show ((Int32.ofNat cp) - (0 : Int32)) = (Int32.ofNat cp) from own_sub0I _]
  refine own_st (G := T7.setTop (mkF m 24 #[.val (.ref b), .val (.int (0 : Int32)), .val (.int (Int32.ofNat k)), .val (.int (Int32.ofNat k)), .val (.ref a15)] [(.int (Int32.ofNat k)), (.int (Int32.ofNat cp)), (.int (0 : Int32)), (.ref a15), (.int (0 : Int32)), (.ref b)])) (fun _ kk => XS.iloadN X10.here hx rfl (hb hby down_corb_23) rfl kk) ?_
  refine own_callS X10 hx hZ (y := (⟨"java/lang/Math", "min", "(II)I"⟩ : MethodName)) (as' := [(.int (Int32.ofNat cp)), (.int (Int32.ofNat k))]) hown (own_w hw 76 rfl) (own_w hw 77 rfl) (own_w hw 78 rfl) (own_w hw 79 rfl) (by decide) (own_wminI l Z a0 hw [] (Int32.ofNat cp) (Int32.ofNat k) h8 n0) 4 (by decide) (by decide) (by decide) (by decide) (rest := [(.int (0 : Int32)), (.ref a15), (.int (0 : Int32)), (.ref b)]) (by rw [hml]; rfl) (lenOf (by decide : parseMethodDescriptor "(II)I" = some ⟨[.int, .int], some (.int)⟩) rfl) rfl (Nat.le_of_eq rfl) (hb hby down_corb_24) e11 ?_
  intro T23 L24 v26 X25 hQ
  obtain ⟨rfl, rfl, eq21⟩ := hQ
  show own_Out _ _ _ _ (T23.setTop (mkF m 27 #[.val (.ref b), .val (.int (0 : Int32)), .val (.int (Int32.ofNat k)), .val (.int (Int32.ofNat k)), .val (.ref a15)] [(.int (own_minI (Int32.ofNat cp) (Int32.ofNat k))), (.int (0 : Int32)), (.ref a15), (.int (0 : Int32)), (.ref b)]))
  have N22 := Fr.app N2 (Fr.nil n0)
  rw [show (own_minI (Int32.ofNat cp) (Int32.ofNat k)) = (Int32.ofNat k) from (own_minI_nat (by omega) (by omega)).trans (congrArg Int32.ofNat (by omega))]
  refine own_arraycopyB X25 hx hZ hown (own_w hw 80 rfl) (own_w hw 37 rfl) (own_w hw 35 rfl) (own_w hw 36 rfl) eq21 F20 F19 (sp := (0 : Int32)) (dp := (0 : Int32)) (nn := (Int32.ofNat k)) (i1 := 0) (i2 := 0) (i3 := k) (by decide) (by decide) (own_ixn (by omega)).1 rfl rfl (own_ixn (by omega)).2 (by omega) (by omega) N22 go0 (rest := []) (by rw [hml]; rfl) (hb hby down_corb_27) (by decide) 0 (Nat.le_of_eq rfl) (by decide) ?_
  intro T27 h28 L34 X29 e30 N31 K32 F33
  show own_Out _ _ _ _ (T27.setTop (mkF m 30 #[.val (.ref b), .val (.int (0 : Int32)), .val (.int (Int32.ofNat k)), .val (.int (Int32.ofNat k)), .val (.ref a15)] []))
  have Eo := own_ext_keep E12 K32 go
  have Fo : own_AB Z h28 a15 k fb := own_AB_congr F33 (fun i hi => (if_pos (by omega)).trans (congrArg fb (by omega)))
  refine own_st (G := T27.setTop (mkF m 32 #[.val (.ref b), .val (.int (0 : Int32)), .val (.int (Int32.ofNat k)), .val (.int (Int32.ofNat k)), .val (.ref a15)] [(.ref a15)])) (fun _ kk => XS.aload X29.here hx rfl (hb hby down_corb_30) rfl rfl kk) ?_
  refine own_retA X29 hx hret rfl rfl hlk (hb hby down_corb_32) (by decide) (by decide) ?_
  rw [e30]
  exact ⟨_, rfl, N31, Eo, go, Fo⟩
theorem pn_own_cor : plainFor (⟨"java/util/Arrays", "copyOfRange", "([BII)[B"⟩ : MethodName) = true := by first | exact plainFor_of_name (by first | (simp [plainName, overriddenIn]; done) | decide +kernel) | decide +kernel
theorem down_cor_0 : decode jdk_65_method_132_code 0 = .ok (.iload_n 1, 1) := by decide +kernel
theorem down_cor_1 : decode jdk_65_method_132_code 1 = .ok (.ifCond .ne 9, 3) := by decide +kernel
theorem down_cor_4 : decode jdk_65_method_132_code 4 = .ok (.iload_n 2, 1) := by decide +kernel
theorem down_cor_5 : decode jdk_65_method_132_code 5 = .ok (.aload_n 0, 1) := by decide +kernel
theorem down_cor_6 : decode jdk_65_method_132_code 6 = .ok (.arraylength, 1) := by decide +kernel
theorem down_cor_7 : decode jdk_65_method_132_code 7 = .ok (.if_icmp .eq 10, 3) := by decide +kernel
theorem down_cor_10 : decode jdk_65_method_132_code 10 = .ok (.aload_n 0, 1) := by decide +kernel
theorem down_cor_11 : decode jdk_65_method_132_code 11 = .ok (.iload_n 1, 1) := by decide +kernel
theorem down_cor_12 : decode jdk_65_method_132_code 12 = .ok (.iload_n 2, 1) := by decide +kernel
theorem down_cor_13 : decode jdk_65_method_132_code 13 = .ok (.invokestatic 339, 3) := by decide +kernel
theorem down_cor_16 : decode jdk_65_method_132_code 16 = .ok (.areturn, 1) := by decide +kernel
theorem down_cor_17 : decode jdk_65_method_132_code 17 = .ok (.aload_n 0, 1) := by decide +kernel
theorem down_cor_18 : decode jdk_65_method_132_code 18 = .ok (.invokevirtual 310, 3) := by decide +kernel
theorem down_cor_21 : decode jdk_65_method_132_code 21 = .ok (.checkcast 311, 3) := by decide +kernel
theorem down_cor_24 : decode jdk_65_method_132_code 24 = .ok (.areturn, 1) := by decide +kernel
def Q_own_cor (Z : State)  (b k cp : Nat) (fb : Nat → Int32) (h0 : Heap) (n0 : Nat) (v : Option Value) (h : Heap) (L : List Loc) : Prop := ∃ o : Nat, v = some (.ref o) ∧ Fr n0 L ∧ Ext h0 h ∧ h0.size ≤ o ∧ own_AB Z h o k fb
set_option maxRecDepth 65536 in
set_option maxHeartbeats 40000000 in
theorem own_cor (l : Launch) (Z : State) (a0 : Array Value) (hw : ∀ d ∈ tables_1, d.before a0 Z = true) (ws : List Jvm.Cond)  (b k cp : Nat) (fb : Nat → Int32) (h0 : Heap) (n0 : Nat) (Fb : own_AB Z h0 b cp fb) (hk : k ≤ cp) (hcp : cp ≤ 1534) (g0 : n0 ≤ h0.size) :
    MetFree l (⟨"java/util/Arrays", "copyOfRange", "([BII)[B"⟩ : MethodName) (head1 (Jvm.Cond.code (⟨"java/util/Arrays", "copyOfRange", "([BII)[B"⟩ : MethodName) jdk_65_method_132_code 3 (some (.array (.byte))) :: ws) ({ frames := 2, cells := 1, slots := 1534, locals := 40 } : Room)) (fun aa U => aa = #[(.ref b), (.int (0 : Int32)), (.int (Int32.ofNat k))] ∧ Z.Warmed39 U.vm ∧ U.heap = h0) (fun _ _ _ _ _ => True) (fun _ U o U' => ∃ v L, o = .returned v ∧ Q_own_cor Z b k cp fb h0 n0 v U'.heap L ∧ FrameEnd U o U' L ({ frames := 2, cells := 1, slots := 1534, locals := 40 } : Room).cells ({ frames := 2, cells := 1, slots := 1534, locals := 40 } : Room).slots) := by
  refine own_body (x := (⟨"java/util/Arrays", "copyOfRange", "([BII)[B"⟩ : MethodName)) (maxL := 3) (as' := #[(.ref b), (.int (0 : Int32)), (.int (Int32.ofNat k))]) (Q := Q_own_cor Z b k cp fb h0 n0) pn_own_cor #[.val (.ref b), .val (.int (0 : Int32)), .val (.int (Int32.ofNat k))] (fun m => by first | (simp [entryFrame, mkF, argsToLocals, Value.category]; done) | rfl) ?_
  intro p e s m below meth c T0 X0 hx hby hml hret hlk hown hnm hZ e0
  replace hml : c.maxLocals = 3 := hml
  replace hown : s.vm.findClass "java/util/Arrays" = some m.cls := hown
  have N0 := Fr.nil n0
  refine own_st (G := T0.setTop (mkF m 1 #[.val (.ref b), .val (.int (0 : Int32)), .val (.int (Int32.ofNat k))] [(.int (0 : Int32))])) (fun _ kk => XS.iloadN X0.here hx rfl (hb hby down_cor_0) rfl kk) ?_
  refine own_st (G := T0.setTop (mkF m 4 #[.val (.ref b), .val (.int (0 : Int32)), .val (.int (Int32.ofNat k))] [])) (fun _ kk => XS.ifNo X0.here hx rfl (hb hby down_cor_1) rfl (XT.i0_ne_f (by decide : (0 : Int32) = (0 : Int32))) kk) ?_
  refine own_st (G := T0.setTop (mkF m 5 #[.val (.ref b), .val (.int (0 : Int32)), .val (.int (Int32.ofNat k))] [(.int (Int32.ofNat k))])) (fun _ kk => XS.iloadN X0.here hx rfl (hb hby down_cor_4) rfl kk) ?_
  refine own_st (G := T0.setTop (mkF m 6 #[.val (.ref b), .val (.int (0 : Int32)), .val (.int (Int32.ofNat k))] [(.ref b), (.int (Int32.ofNat k))])) (fun _ kk => XS.aloadN X0.here hx rfl (hb hby down_cor_5) rfl rfl kk) ?_
  refine own_lenB X0 hx hZ e0 Fb (z := (Int32.ofNat cp)) rfl (hb hby down_cor_6) ?_
  show own_Out _ _ _ _ (T0.setTop (mkF m 7 #[.val (.ref b), .val (.int (0 : Int32)), .val (.int (Int32.ofNat k))] [(.int (Int32.ofNat cp)), (.int (Int32.ofNat k))]))
  by_cases hc1 : (Int32.ofNat k) = (Int32.ofNat cp)
  · skip
    refine own_st (G := T0.setTop (mkF m 17 #[.val (.ref b), .val (.int (0 : Int32)), .val (.int (Int32.ofNat k))] [])) (fun _ kk => XS.icmpYes X0.here hx rfl (pc0 := 7) (pc' := 17) rfl (hb hby down_cor_7) rfl (XT.ii_eq_t hc1) (by decide) (by decide) kk) ?_
    refine own_st (G := T0.setTop (mkF m 18 #[.val (.ref b), .val (.int (0 : Int32)), .val (.int (Int32.ofNat k))] [(.ref b)])) (fun _ kk => XS.aloadN X0.here hx rfl (hb hby down_cor_17) rfl rfl kk) ?_
    refine own_clone X0 hx hZ hown (own_w hw 100 rfl) (own_w hw 101 rfl) (own_w hw 105 rfl) (own_w hw 103 rfl) (own_w hw 104 rfl) (own_w hw 106 rfl) e0 Fb (rest := []) (by rw [hml]; rfl) (hb hby down_cor_18) (by decide) 0 1534 (Nat.le_of_eq rfl) (by decide) hcp (by decide) (by decide) ?_
    intro T2 h3 X4 e5 E6 F7
    obtain ⟨a8, g9⟩ : ∃ z : Nat, z = h0.size := ⟨_, rfl⟩
    rw [← g9] at F7 ⊢
    show own_Out _ _ _ _ (T2.setTop (mkF m 21 #[.val (.ref b), .val (.int (0 : Int32)), .val (.int (Int32.ofNat k))] [(.ref a8)]))
    obtain ⟨T10, X11, e12, st13⟩ := castY X4 hx hZ hown (own_w hw 107 rfl) e5 (own_AB_ins F7) (g := (mkF m 21 #[.val (.ref b), .val (.int (0 : Int32)), .val (.int (Int32.ofNat k))] [(.ref a8)])) rfl rfl (hb hby down_cor_21)
    refine own_st st13 ?_
    show own_Out _ _ _ _ (T10.setTop (mkF m 24 #[.val (.ref b), .val (.int (0 : Int32)), .val (.int (Int32.ofNat k))] [(.ref a8)]))
    refine own_retA X11 hx hret rfl rfl hlk (hb hby down_cor_24) (by decide) (by decide) ?_
    rw [e12]
    exact ⟨_, rfl, N0, E6, Nat.le_of_eq g9.symm, by rw [(own_eqI (by omega) (by omega)).mp hc1]; exact F7⟩
  · skip
    refine own_st (G := T0.setTop (mkF m 10 #[.val (.ref b), .val (.int (0 : Int32)), .val (.int (Int32.ofNat k))] [])) (fun _ kk => XS.icmpNo X0.here hx rfl (hb hby down_cor_7) rfl (XT.ii_eq_f hc1) kk) ?_
    refine own_st (G := T0.setTop (mkF m 11 #[.val (.ref b), .val (.int (0 : Int32)), .val (.int (Int32.ofNat k))] [(.ref b)])) (fun _ kk => XS.aloadN X0.here hx rfl (hb hby down_cor_10) rfl rfl kk) ?_
    refine own_st (G := T0.setTop (mkF m 12 #[.val (.ref b), .val (.int (0 : Int32)), .val (.int (Int32.ofNat k))] [(.int (0 : Int32)), (.ref b)])) (fun _ kk => XS.iloadN X0.here hx rfl (hb hby down_cor_11) rfl kk) ?_
    refine own_st (G := T0.setTop (mkF m 13 #[.val (.ref b), .val (.int (0 : Int32)), .val (.int (Int32.ofNat k))] [(.int (Int32.ofNat k)), (.int (0 : Int32)), (.ref b)])) (fun _ kk => XS.iloadN X0.here hx rfl (hb hby down_cor_12) rfl kk) ?_
    refine own_callS X0 hx hZ (y := (⟨"java/util/Arrays", "copyOfRangeByte", "([BII)[B"⟩ : MethodName)) (as' := [(.ref b), (.int (0 : Int32)), (.int (Int32.ofNat k))]) hown (own_w hw 70 rfl) (own_w hw 71 rfl) (own_w hw 68 rfl) (own_w hw 72 rfl) (by decide) (own_corb l Z a0 hw [] b k cp fb h0 n0 Fb hk hcp g0) 0 (by decide) (by decide) (by decide) (by decide) (rest := []) (by rw [hml]; rfl) (lenOf (by decide : parseMethodDescriptor "([BII)[B" = some ⟨[.array (.byte), .int, .int], some (.array (.byte))⟩) rfl) rfl (Nat.le_of_eq rfl) (hb hby down_cor_13) e0 ?_
    intro T19 L20 v22 X21 hQ
    obtain ⟨o14, rfl, N15', E16, g17, F18⟩ := hQ
    show own_Out _ _ _ _ (T19.setTop (mkF m 16 #[.val (.ref b), .val (.int (0 : Int32)), .val (.int (Int32.ofNat k))] [(.ref o14)]))
    have N15 := Fr.app N0 N15'
    refine own_retA X21 hx hret rfl rfl hlk (hb hby down_cor_16) (by decide) (by decide) ?_
    exact ⟨_, rfl, N15, E16, g17, F18⟩
theorem pn_own_bf : plainFor (⟨"com/example/kennel/kennel/Utf8Builder", "bytesFrom", "(J)[B"⟩ : MethodName) = true := by first | exact plainFor_of_name (by first | (simp [plainName, overriddenIn]; done) | decide +kernel) | decide +kernel
theorem down_bf_0 : decode prog_48_method_5_code 0 = .ok (.aload_n 0, 1) := by decide +kernel
theorem down_bf_1 : decode prog_48_method_5_code 1 = .ok (.invokevirtual 43, 3) := by decide +kernel
theorem down_bf_4 : decode prog_48_method_5_code 4 = .ok (.lload_n 1, 1) := by decide +kernel
theorem down_bf_5 : decode prog_48_method_5_code 5 = .ok (.lsub, 1) := by decide +kernel
theorem down_bf_6 : decode prog_48_method_5_code 6 = .ok (.aload_n 0, 1) := by decide +kernel
theorem down_bf_7 : decode prog_48_method_5_code 7 = .ok (.getfield 28, 3) := by decide +kernel
theorem down_bf_10 : decode prog_48_method_5_code 10 = .ok (.i2l, 1) := by decide +kernel
theorem down_bf_11 : decode prog_48_method_5_code 11 = .ok (.lcmp, 1) := by decide +kernel
theorem down_bf_12 : decode prog_48_method_5_code 12 = .ok (.ifCond .le 15, 3) := by decide +kernel
theorem down_bf_27 : decode prog_48_method_5_code 27 = .ok (.lload_n 1, 1) := by decide +kernel
theorem down_bf_28 : decode prog_48_method_5_code 28 = .ok (.aload_n 0, 1) := by decide +kernel
theorem down_bf_29 : decode prog_48_method_5_code 29 = .ok (.getfield 32, 3) := by decide +kernel
theorem down_bf_32 : decode prog_48_method_5_code 32 = .ok (.lcmp, 1) := by decide +kernel
theorem down_bf_33 : decode prog_48_method_5_code 33 = .ok (.ifCond .lt 22, 3) := by decide +kernel
theorem down_bf_36 : decode prog_48_method_5_code 36 = .ok (.aload_n 0, 1) := by decide +kernel
theorem down_bf_37 : decode prog_48_method_5_code 37 = .ok (.getfield 15, 3) := by decide +kernel
theorem down_bf_40 : decode prog_48_method_5_code 40 = .ok (.lload_n 1, 1) := by decide +kernel
theorem down_bf_41 : decode prog_48_method_5_code 41 = .ok (.aload_n 0, 1) := by decide +kernel
theorem down_bf_42 : decode prog_48_method_5_code 42 = .ok (.getfield 32, 3) := by decide +kernel
theorem down_bf_45 : decode prog_48_method_5_code 45 = .ok (.lsub, 1) := by decide +kernel
theorem down_bf_46 : decode prog_48_method_5_code 46 = .ok (.l2i, 1) := by decide +kernel
theorem down_bf_47 : decode prog_48_method_5_code 47 = .ok (.aload_n 0, 1) := by decide +kernel
theorem down_bf_48 : decode prog_48_method_5_code 48 = .ok (.getfield 36, 3) := by decide +kernel
theorem down_bf_51 : decode prog_48_method_5_code 51 = .ok (.invokestatic 49, 3) := by decide +kernel
theorem down_bf_54 : decode prog_48_method_5_code 54 = .ok (.areturn, 1) := by decide +kernel
theorem down_bf_55 : decode prog_48_method_5_code 55 = .ok (.aload_n 0, 1) := by decide +kernel
theorem down_bf_56 : decode prog_48_method_5_code 56 = .ok (.invokevirtual 43, 3) := by decide +kernel
theorem down_bf_59 : decode prog_48_method_5_code 59 = .ok (.lload_n 1, 1) := by decide +kernel
theorem down_bf_60 : decode prog_48_method_5_code 60 = .ok (.lsub, 1) := by decide +kernel
theorem down_bf_61 : decode prog_48_method_5_code 61 = .ok (.l2i, 1) := by decide +kernel
theorem down_bf_62 : decode prog_48_method_5_code 62 = .ok (.newarray .byte, 2) := by decide +kernel
theorem down_bf_64 : decode prog_48_method_5_code 64 = .ok (.astore_n 3, 1) := by decide +kernel
theorem down_bf_65 : decode prog_48_method_5_code 65 = .ok (.aload_n 3, 1) := by decide +kernel
theorem down_bf_66 : decode prog_48_method_5_code 66 = .ok (.arraylength, 1) := by decide +kernel
theorem down_bf_67 : decode prog_48_method_5_code 67 = .ok (.aload_n 0, 1) := by decide +kernel
theorem down_bf_68 : decode prog_48_method_5_code 68 = .ok (.getfield 36, 3) := by decide +kernel
theorem down_bf_71 : decode prog_48_method_5_code 71 = .ok (.isub, 1) := by decide +kernel
theorem down_bf_72 : decode prog_48_method_5_code 72 = .ok (.istore 4, 2) := by decide +kernel
theorem down_bf_74 : decode prog_48_method_5_code 74 = .ok (.aload_n 0, 1) := by decide +kernel
theorem down_bf_75 : decode prog_48_method_5_code 75 = .ok (.getfield 15, 3) := by decide +kernel
theorem down_bf_78 : decode prog_48_method_5_code 78 = .ok (.iconst 0, 1) := by decide +kernel
theorem down_bf_79 : decode prog_48_method_5_code 79 = .ok (.aload_n 3, 1) := by decide +kernel
theorem down_bf_80 : decode prog_48_method_5_code 80 = .ok (.iload 4, 2) := by decide +kernel
theorem down_bf_82 : decode prog_48_method_5_code 82 = .ok (.aload_n 0, 1) := by decide +kernel
theorem down_bf_83 : decode prog_48_method_5_code 83 = .ok (.getfield 36, 3) := by decide +kernel
theorem down_bf_86 : decode prog_48_method_5_code 86 = .ok (.invokestatic 55, 3) := by decide +kernel
theorem down_bf_89 : decode prog_48_method_5_code 89 = .ok (.aload_n 0, 1) := by decide +kernel
theorem down_bf_90 : decode prog_48_method_5_code 90 = .ok (.getfield 32, 3) := by decide +kernel
theorem down_bf_93 : decode prog_48_method_5_code 93 = .ok (.lstore 5, 2) := by decide +kernel
theorem down_bf_95 : decode prog_48_method_5_code 95 = .ok (.aload_n 0, 1) := by decide +kernel
theorem down_bf_96 : decode prog_48_method_5_code 96 = .ok (.getfield 61, 3) := by decide +kernel
theorem down_bf_99 : decode prog_48_method_5_code 99 = .ok (.iconst 1, 1) := by decide +kernel
theorem down_bf_100 : decode prog_48_method_5_code 100 = .ok (.isub, 1) := by decide +kernel
theorem down_bf_101 : decode prog_48_method_5_code 101 = .ok (.istore 7, 2) := by decide +kernel
theorem down_bf_103 : decode prog_48_method_5_code 103 = .ok (.iload 4, 2) := by decide +kernel
theorem down_bf_105 : decode prog_48_method_5_code 105 = .ok (.ifCond .le 69, 3) := by decide +kernel
theorem down_bf_108 : decode prog_48_method_5_code 108 = .ok (.lload 5, 2) := by decide +kernel
theorem down_bf_110 : decode prog_48_method_5_code 110 = .ok (.aload_n 0, 1) := by decide +kernel
theorem down_bf_111 : decode prog_48_method_5_code 111 = .ok (.getfield 24, 3) := by decide +kernel
theorem down_bf_114 : decode prog_48_method_5_code 114 = .ok (.iload 7, 2) := by decide +kernel
theorem down_bf_116 : decode prog_48_method_5_code 116 = .ok (.iaload, 1) := by decide +kernel
theorem down_bf_117 : decode prog_48_method_5_code 117 = .ok (.i2l, 1) := by decide +kernel
theorem down_bf_118 : decode prog_48_method_5_code 118 = .ok (.lsub, 1) := by decide +kernel
theorem down_bf_119 : decode prog_48_method_5_code 119 = .ok (.lstore 5, 2) := by decide +kernel
theorem down_bf_121 : decode prog_48_method_5_code 121 = .ok (.lconst 0, 1) := by decide +kernel
theorem down_bf_122 : decode prog_48_method_5_code 122 = .ok (.lload_n 1, 1) := by decide +kernel
theorem down_bf_123 : decode prog_48_method_5_code 123 = .ok (.lload 5, 2) := by decide +kernel
theorem down_bf_125 : decode prog_48_method_5_code 125 = .ok (.lsub, 1) := by decide +kernel
theorem down_bf_126 : decode prog_48_method_5_code 126 = .ok (.invokestatic 64, 3) := by decide +kernel
theorem down_bf_129 : decode prog_48_method_5_code 129 = .ok (.l2i, 1) := by decide +kernel
theorem down_bf_130 : decode prog_48_method_5_code 130 = .ok (.istore 8, 2) := by decide +kernel
theorem down_bf_132 : decode prog_48_method_5_code 132 = .ok (.aload_n 0, 1) := by decide +kernel
theorem down_bf_133 : decode prog_48_method_5_code 133 = .ok (.getfield 24, 3) := by decide +kernel
theorem down_bf_136 : decode prog_48_method_5_code 136 = .ok (.iload 7, 2) := by decide +kernel
theorem down_bf_138 : decode prog_48_method_5_code 138 = .ok (.iaload, 1) := by decide +kernel
theorem down_bf_139 : decode prog_48_method_5_code 139 = .ok (.iload 8, 2) := by decide +kernel
theorem down_bf_141 : decode prog_48_method_5_code 141 = .ok (.isub, 1) := by decide +kernel
theorem down_bf_142 : decode prog_48_method_5_code 142 = .ok (.istore 9, 2) := by decide +kernel
theorem down_bf_144 : decode prog_48_method_5_code 144 = .ok (.iload 4, 2) := by decide +kernel
theorem down_bf_146 : decode prog_48_method_5_code 146 = .ok (.iload 9, 2) := by decide +kernel
theorem down_bf_148 : decode prog_48_method_5_code 148 = .ok (.isub, 1) := by decide +kernel
theorem down_bf_149 : decode prog_48_method_5_code 149 = .ok (.istore 4, 2) := by decide +kernel
theorem down_bf_151 : decode prog_48_method_5_code 151 = .ok (.aload_n 0, 1) := by decide +kernel
theorem down_bf_152 : decode prog_48_method_5_code 152 = .ok (.getfield 20, 3) := by decide +kernel
theorem down_bf_155 : decode prog_48_method_5_code 155 = .ok (.iload 7, 2) := by decide +kernel
theorem down_bf_157 : decode prog_48_method_5_code 157 = .ok (.aaload, 1) := by decide +kernel
theorem down_bf_158 : decode prog_48_method_5_code 158 = .ok (.iload 8, 2) := by decide +kernel
theorem down_bf_160 : decode prog_48_method_5_code 160 = .ok (.aload_n 3, 1) := by decide +kernel
theorem down_bf_161 : decode prog_48_method_5_code 161 = .ok (.iload 4, 2) := by decide +kernel
theorem down_bf_163 : decode prog_48_method_5_code 163 = .ok (.iload 9, 2) := by decide +kernel
theorem down_bf_165 : decode prog_48_method_5_code 165 = .ok (.invokestatic 55, 3) := by decide +kernel
theorem down_bf_168 : decode prog_48_method_5_code 168 = .ok (.iinc 7 (-1), 3) := by decide +kernel
theorem down_bf_171 : decode prog_48_method_5_code 171 = .ok (.goto (-68), 3) := by decide +kernel
theorem down_bf_174 : decode prog_48_method_5_code 174 = .ok (.aload_n 3, 1) := by decide +kernel
theorem down_bf_175 : decode prog_48_method_5_code 175 = .ok (.areturn, 1) := by decide +kernel
def Q_own_bf (Z : State)  (a mm tt rr : Nat) (F : Nat → Int32) (h0 : Heap) (n0 : Nat) (v : Option Value) (h : Heap) (L : List Loc) : Prop := ∃ o : Nat, v = some (.ref o) ∧ Fr n0 L ∧ Ext h0 h ∧ h0.size ≤ o ∧ own_AB Z h o tt F
set_option maxRecDepth 65536 in
set_option maxHeartbeats 40000000 in
theorem own_bf (l : Launch) (Z : State) (a0 : Array Value) (hw : ∀ d ∈ tables_1, d.before a0 Z = true) (ws : List Jvm.Cond)  (a mm tt rr : Nat) (F : Nat → Int32) (h0 : Heap) (n0 : Nat) (V0 : own_V Z h0 a n0 mm tt F rr) (hmm : mm ≤ 4) (htt : tt ≤ 1534) :
    MetFree l (⟨"com/example/kennel/kennel/Utf8Builder", "bytesFrom", "(J)[B"⟩ : MethodName) (head1 (Jvm.Cond.code (⟨"com/example/kennel/kennel/Utf8Builder", "bytesFrom", "(J)[B"⟩ : MethodName) prog_48_method_5_code 10 (some (.array (.byte))) :: ws) ({ frames := 3, cells := 1, slots := 1534, locals := 54 } : Room)) (fun aa U => aa = #[(.ref a), (.long (0 : Int64))] ∧ Z.Warmed39 U.vm ∧ U.heap = h0) (fun _ _ _ _ _ => True) (fun _ U o U' => ∃ v L, o = .returned v ∧ Q_own_bf Z a mm tt rr F h0 n0 v U'.heap L ∧ FrameEnd U o U' L ({ frames := 3, cells := 1, slots := 1534, locals := 54 } : Room).cells ({ frames := 3, cells := 1, slots := 1534, locals := 54 } : Room).slots) := by
  refine own_body (x := (⟨"com/example/kennel/kennel/Utf8Builder", "bytesFrom", "(J)[B"⟩ : MethodName)) (maxL := 10) (as' := #[(.ref a), (.long (0 : Int64))]) (Q := Q_own_bf Z a mm tt rr F h0 n0) pn_own_bf #[.val (.ref a), .val (.long (0 : Int64)), .second, .unset, .unset, .unset, .unset, .unset, .unset, .unset] (fun m => by first | (simp [entryFrame, mkF, argsToLocals, Value.category]; done) | rfl) ?_
  intro p e s m below meth c T0 X0 hx hby hml hret hlk hown hnm hZ e0
  replace hml : c.maxLocals = 10 := hml
  replace hown : s.vm.findClass "com/example/kennel/kennel/Utf8Builder" = some m.cls := hown
  have N0 := Fr.nil n0
  have V1 := V0
  obtain ⟨n, ck, cap, ln, ct, ea, la, fe, fl, ⟨O, Fe, Fl, Fc, P⟩, hn, ht, hF, hr⟩ := V0
  have hck := own_ckge P
  obtain ⟨P1, P2, P3, P4, P5, P6, P7, P8, P9, P10⟩ := id P
  have Bl0 := own_Bl_refl (h := h0) (a := a)
  have g0 : n0 ≤ h0.size := Nat.le_trans P1 (Nat.le_of_lt O.1.lt)
  have hte : own_sum ln (n + 1) = own_sum ln n + ln n := rfl
  refine own_st (G := T0.setTop (mkF m 1 #[.val (.ref a), .val (.long (0 : Int64)), .second, .unset, .unset, .unset, .unset, .unset, .unset, .unset] [(.ref a)])) (fun _ kk => XS.aloadN X0.here hx rfl (hb hby down_bf_0) rfl rfl kk) ?_
  refine own_callV X0 hx hZ (y := (⟨"com/example/kennel/kennel/Utf8Builder", "length", "()J"⟩ : MethodName)) (b := a) (as' := []) hown (own_w hw 65 rfl) (own_w hw 46 rfl) (own_w hw 48 rfl) (own_w hw 47 rfl) (own_w hw 49 rfl) (own_w hw 4 rfl) (by decide) (own_len l Z a0 hw [] a mm tt rr F h0 n0 V1 (by omega)) (O).1 0 (by decide) (by decide) (by decide) (by decide) (rest := []) (by rw [hml]; rfl) (lenOf (by decide : parseMethodDescriptor "()J" = some ⟨[], some (.long)⟩) rfl) rfl (Nat.le_of_eq rfl) (hb hby down_bf_1) e0 ?_
  intro T3 L4 v6 X5 hQ
  obtain ⟨rfl, rfl, eq1⟩ := hQ
  show own_Out _ _ _ _ (T3.setTop (mkF m 4 #[.val (.ref a), .val (.long (0 : Int64)), .second, .unset, .unset, .unset, .unset, .unset, .unset, .unset] [(.long (Int64.ofNat tt))]))
  have N2 := Fr.app N0 (Fr.nil n0)
  refine own_st (G := T3.setTop (mkF m 5 #[.val (.ref a), .val (.long (0 : Int64)), .second, .unset, .unset, .unset, .unset, .unset, .unset, .unset] [(.long (0 : Int64)), (.long (Int64.ofNat tt))])) (fun _ kk => XS.lloadN X5.here hx rfl (hb hby down_bf_4) rfl kk) ?_
  refine own_st (G := T3.setTop (mkF m 6 #[.val (.ref a), .val (.long (0 : Int64)), .second, .unset, .unset, .unset, .unset, .unset, .unset, .unset] [(.long ((Int64.ofNat tt) - (0 : Int64)))])) (fun _ kk => XS.lsub X5.here hx rfl (hb hby down_bf_5) rfl kk) ?_
  rw [show ((Int64.ofNat tt) - (0 : Int64)) = (Int64.ofNat tt) from own_sub0J _]
  refine own_st (G := T3.setTop (mkF m 7 #[.val (.ref a), .val (.long (0 : Int64)), .second, .unset, .unset, .unset, .unset, .unset, .unset, .unset] [(.ref a), (.long (Int64.ofNat tt))])) (fun _ kk => XS.aloadN X5.here hx rfl (hb hby down_bf_6) rfl rfl kk) ?_
  obtain ⟨T7, X8, e9, st10⟩ := getF X5 hx hZ hown (host := "") (Or.inl (own_w hw 21 rfl)) Via.refl eq1 (O).2.2.2.2.2.2.2 (g := (mkF m 7 #[.val (.ref a), .val (.long (0 : Int64)), .second, .unset, .unset, .unset, .unset, .unset, .unset, .unset] [(.ref a), (.long (Int64.ofNat tt))])) rfl rfl (hb hby down_bf_7)
  refine own_st st10 ?_
  show own_Out _ _ _ _ (T7.setTop (mkF m 10 #[.val (.ref a), .val (.long (0 : Int64)), .second, .unset, .unset, .unset, .unset, .unset, .unset, .unset] [(.int (1048576 : Int32)), (.long (Int64.ofNat tt))]))
  refine own_st (G := T7.setTop (mkF m 11 #[.val (.ref a), .val (.long (0 : Int64)), .second, .unset, .unset, .unset, .unset, .unset, .unset, .unset] [(.long (1048576 : Int32).toInt64), (.long (Int64.ofNat tt))])) (fun _ kk => XS.i2l X8.here hx rfl (hb hby down_bf_10) rfl kk) ?_
  refine own_st (G := T7.setTop (mkF m 12 #[.val (.ref a), .val (.long (0 : Int64)), .second, .unset, .unset, .unset, .unset, .unset, .unset, .unset] [(.int (BdW.cmpL (Int64.ofNat tt) (1048576 : Int32).toInt64))])) (fun _ kk => XT.lcmp X8.here hx rfl (hb hby down_bf_11) rfl kk) ?_
  have hk11 : ¬ ((1048576 : Int32).toInt64 < (Int64.ofNat tt)) := own_most (by omega)
  refine own_st (G := T7.setTop (mkF m 27 #[.val (.ref a), .val (.long (0 : Int64)), .second, .unset, .unset, .unset, .unset, .unset, .unset, .unset] [])) (fun _ kk => XS.ifYes X8.here hx rfl (pc0 := 12) (pc' := 27) rfl (hb hby down_bf_12) rfl (XT.ll_le_t hk11) (by decide) (by decide) kk) ?_
  refine own_st (G := T7.setTop (mkF m 28 #[.val (.ref a), .val (.long (0 : Int64)), .second, .unset, .unset, .unset, .unset, .unset, .unset, .unset] [(.long (0 : Int64))])) (fun _ kk => XS.lloadN X8.here hx rfl (hb hby down_bf_27) rfl kk) ?_
  refine own_st (G := T7.setTop (mkF m 29 #[.val (.ref a), .val (.long (0 : Int64)), .second, .unset, .unset, .unset, .unset, .unset, .unset, .unset] [(.ref a), (.long (0 : Int64))])) (fun _ kk => XS.aloadN X8.here hx rfl (hb hby down_bf_28) rfl rfl kk) ?_
  obtain ⟨T12, X13, e14, st15⟩ := getF X8 hx hZ hown (host := "") (Or.inl (own_w hw 43 rfl)) Via.refl e9 (O).2.2.2.2.2.1 (g := (mkF m 29 #[.val (.ref a), .val (.long (0 : Int64)), .second, .unset, .unset, .unset, .unset, .unset, .unset, .unset] [(.ref a), (.long (0 : Int64))])) rfl rfl (hb hby down_bf_29)
  refine own_st st15 ?_
  show own_Out _ _ _ _ (T12.setTop (mkF m 32 #[.val (.ref a), .val (.long (0 : Int64)), .second, .unset, .unset, .unset, .unset, .unset, .unset, .unset] [(.long (Int64.ofNat (own_sum ln n))), (.long (0 : Int64))]))
  refine own_st (G := T12.setTop (mkF m 33 #[.val (.ref a), .val (.long (0 : Int64)), .second, .unset, .unset, .unset, .unset, .unset, .unset, .unset] [(.int (BdW.cmpL (0 : Int64) (Int64.ofNat (own_sum ln n))))])) (fun _ kk => XT.lcmp X13.here hx rfl (hb hby down_bf_32) rfl kk) ?_
  by_cases hc16 : (0 : Int64) < (Int64.ofNat (own_sum ln n))
  · skip
    refine own_st (G := T12.setTop (mkF m 55 #[.val (.ref a), .val (.long (0 : Int64)), .second, .unset, .unset, .unset, .unset, .unset, .unset, .unset] [])) (fun _ kk => XS.ifYes X13.here hx rfl (pc0 := 33) (pc' := 55) rfl (hb hby down_bf_33) rfl (XT.ll_lt_t hc16) (by decide) (by decide) kk) ?_
    refine own_st (G := T12.setTop (mkF m 56 #[.val (.ref a), .val (.long (0 : Int64)), .second, .unset, .unset, .unset, .unset, .unset, .unset, .unset] [(.ref a)])) (fun _ kk => XS.aloadN X13.here hx rfl (hb hby down_bf_55) rfl rfl kk) ?_
    refine own_callV X13 hx hZ (y := (⟨"com/example/kennel/kennel/Utf8Builder", "length", "()J"⟩ : MethodName)) (b := a) (as' := []) hown (own_w hw 65 rfl) (own_w hw 46 rfl) (own_w hw 48 rfl) (own_w hw 47 rfl) (own_w hw 49 rfl) (own_w hw 4 rfl) (by decide) (own_len l Z a0 hw [] a mm tt rr F h0 n0 V1 (by omega)) (O).1 0 (by decide) (by decide) (by decide) (by decide) (rest := []) (by rw [hml]; rfl) (lenOf (by decide : parseMethodDescriptor "()J" = some ⟨[], some (.long)⟩) rfl) rfl (Nat.le_of_eq rfl) (hb hby down_bf_56) e14 ?_
    intro T19 L20 v22 X21 hQ
    obtain ⟨rfl, rfl, eq17⟩ := hQ
    show own_Out _ _ _ _ (T19.setTop (mkF m 59 #[.val (.ref a), .val (.long (0 : Int64)), .second, .unset, .unset, .unset, .unset, .unset, .unset, .unset] [(.long (Int64.ofNat tt))]))
    have N18 := Fr.app N2 (Fr.nil n0)
    refine own_st (G := T19.setTop (mkF m 60 #[.val (.ref a), .val (.long (0 : Int64)), .second, .unset, .unset, .unset, .unset, .unset, .unset, .unset] [(.long (0 : Int64)), (.long (Int64.ofNat tt))])) (fun _ kk => XS.lloadN X21.here hx rfl (hb hby down_bf_59) rfl kk) ?_
    refine own_st (G := T19.setTop (mkF m 61 #[.val (.ref a), .val (.long (0 : Int64)), .second, .unset, .unset, .unset, .unset, .unset, .unset, .unset] [(.long ((Int64.ofNat tt) - (0 : Int64)))])) (fun _ kk => XS.lsub X21.here hx rfl (hb hby down_bf_60) rfl kk) ?_
    rw [show ((Int64.ofNat tt) - (0 : Int64)) = (Int64.ofNat tt) from own_sub0J _]
    refine own_st (G := T19.setTop (mkF m 62 #[.val (.ref a), .val (.long (0 : Int64)), .second, .unset, .unset, .unset, .unset, .unset, .unset, .unset] [(.int (Int64.ofNat tt).toInt32)])) (fun _ kk => XS.l2i X21.here hx rfl (hb hby down_bf_61) rfl kk) ?_
    rw [show (Int64.ofNat tt).toInt32 = (Int32.ofNat tt) from own_i32 (by omega)]
    obtain ⟨T23, h24, cA25, X26, e27, E28, A29, EX34, st30⟩ := newPE X21 hx hZ (own_w hw 0 rfl) eq17 (g := (mkF m 62 #[.val (.ref a), .val (.long (0 : Int64)), .second, .unset, .unset, .unset, .unset, .unset, .unset, .unset] [(.int (Int32.ofNat tt))])) rfl (hb hby down_bf_62) rfl (own_ixn (n := tt) (by omega)).1 (cap := 1534) (Nat.le_trans (Nat.le_of_eq (own_ixn (n := tt) (by omega)).2) (by omega)) (by decide) (by decide) (by decide) (ad := "[B") rfl
    obtain ⟨a31, g32⟩ : ∃ z, z = h0.size := ⟨_, rfl⟩
    rw [← g32] at A29 st30 EX34
    refine own_st st30 ?_
    show own_Out _ _ _ _ (T23.setTop (mkF m 64 #[.val (.ref a), .val (.long (0 : Int64)), .second, .unset, .unset, .unset, .unset, .unset, .unset, .unset] [(.ref a31)]))
    have go : h0.size ≤ a31 := Nat.le_of_eq g32.symm
    have go0 : n0 ≤ a31 := Nat.le_trans g0 go
    have Fe2 := own_AR_ext Fe E28
    have Fl2 := own_AI_ext Fl E28
    have O2 := own_B_ext E28 O
    have Fc2 : ∀ i, i ≤ n → own_AB Z h24 (ck i) (cap i) (ct i) := fun i hi => own_AB_ext (Fc i hi) E28
    have Fo0 := own_AB_new A29 EX34 (own_ixn (n := tt) (by omega)).1 (own_ixn (n := tt) (by omega)).2
    refine own_st (G := T23.setTop (mkF m 65 #[.val (.ref a), .val (.long (0 : Int64)), .second, .val (.ref a31), .unset, .unset, .unset, .unset, .unset, .unset] [])) (fun _ kk => XS.astoreN X26.here hx rfl (hb hby down_bf_64) rfl rfl (l' := #[.val (.ref a), .val (.long (0 : Int64)), .second, .val (.ref a31), .unset, .unset, .unset, .unset, .unset, .unset]) rfl kk) ?_
    refine own_st (G := T23.setTop (mkF m 66 #[.val (.ref a), .val (.long (0 : Int64)), .second, .val (.ref a31), .unset, .unset, .unset, .unset, .unset, .unset] [(.ref a31)])) (fun _ kk => XS.aloadN X26.here hx rfl (hb hby down_bf_65) rfl rfl kk) ?_
    refine own_lenB X26 hx hZ e27 Fo0 (z := (Int32.ofNat tt)) rfl (hb hby down_bf_66) ?_
    show own_Out _ _ _ _ (T23.setTop (mkF m 67 #[.val (.ref a), .val (.long (0 : Int64)), .second, .val (.ref a31), .unset, .unset, .unset, .unset, .unset, .unset] [(.int (Int32.ofNat tt))]))
    refine own_st (G := T23.setTop (mkF m 68 #[.val (.ref a), .val (.long (0 : Int64)), .second, .val (.ref a31), .unset, .unset, .unset, .unset, .unset, .unset] [(.ref a), (.int (Int32.ofNat tt))])) (fun _ kk => XS.aloadN X26.here hx rfl (hb hby down_bf_67) rfl rfl kk) ?_
    obtain ⟨T35, X36, e37, st38⟩ := getF X26 hx hZ hown (host := "") (Or.inl (own_w hw 32 rfl)) Via.refl e27 (O2).2.2.2.2.2.2.1 (g := (mkF m 68 #[.val (.ref a), .val (.long (0 : Int64)), .second, .val (.ref a31), .unset, .unset, .unset, .unset, .unset, .unset] [(.ref a), (.int (Int32.ofNat tt))])) rfl rfl (hb hby down_bf_68)
    refine own_st st38 ?_
    show own_Out _ _ _ _ (T35.setTop (mkF m 71 #[.val (.ref a), .val (.long (0 : Int64)), .second, .val (.ref a31), .unset, .unset, .unset, .unset, .unset, .unset] [(.int (Int32.ofNat (ln n))), (.int (Int32.ofNat tt))]))
    refine own_st (G := T35.setTop (mkF m 72 #[.val (.ref a), .val (.long (0 : Int64)), .second, .val (.ref a31), .unset, .unset, .unset, .unset, .unset, .unset] [(.int ((Int32.ofNat tt) - (Int32.ofNat (ln n))))])) (fun _ kk => XS.isub X36.here hx rfl (hb hby down_bf_71) rfl kk) ?_
    rw [show ((Int32.ofNat tt) - (Int32.ofNat (ln n))) = (Int32.ofNat (own_sum ln n)) from (own_subI (by omega) (by omega)).trans (congrArg Int32.ofNat (by omega))]
    refine own_st (G := T35.setTop (mkF m 74 #[.val (.ref a), .val (.long (0 : Int64)), .second, .val (.ref a31), .val (.int (Int32.ofNat (own_sum ln n))), .unset, .unset, .unset, .unset, .unset] [])) (fun _ kk => XS.istore X36.here hx rfl (hb hby down_bf_72) rfl (l' := #[.val (.ref a), .val (.long (0 : Int64)), .second, .val (.ref a31), .val (.int (Int32.ofNat (own_sum ln n))), .unset, .unset, .unset, .unset, .unset]) rfl kk) ?_
    refine own_st (G := T35.setTop (mkF m 75 #[.val (.ref a), .val (.long (0 : Int64)), .second, .val (.ref a31), .val (.int (Int32.ofNat (own_sum ln n))), .unset, .unset, .unset, .unset, .unset] [(.ref a)])) (fun _ kk => XS.aloadN X36.here hx rfl (hb hby down_bf_74) rfl rfl kk) ?_
    obtain ⟨T39, X40, e41, st42⟩ := getF X36 hx hZ hown (host := "") (Or.inl (own_w hw 12 rfl)) Via.refl e37 (O2).2.1 (g := (mkF m 75 #[.val (.ref a), .val (.long (0 : Int64)), .second, .val (.ref a31), .val (.int (Int32.ofNat (own_sum ln n))), .unset, .unset, .unset, .unset, .unset] [(.ref a)])) rfl rfl (hb hby down_bf_75)
    refine own_st st42 ?_
    show own_Out _ _ _ _ (T39.setTop (mkF m 78 #[.val (.ref a), .val (.long (0 : Int64)), .second, .val (.ref a31), .val (.int (Int32.ofNat (own_sum ln n))), .unset, .unset, .unset, .unset, .unset] [(.ref (ck n))]))
    refine own_st (G := T39.setTop (mkF m 79 #[.val (.ref a), .val (.long (0 : Int64)), .second, .val (.ref a31), .val (.int (Int32.ofNat (own_sum ln n))), .unset, .unset, .unset, .unset, .unset] [(.int (0 : Int32)), (.ref (ck n))])) (fun _ kk => XT.iconstV X40.here hx rfl (0 : Int32) (hb hby down_bf_78) (by decide) kk) ?_
    refine own_st (G := T39.setTop (mkF m 80 #[.val (.ref a), .val (.long (0 : Int64)), .second, .val (.ref a31), .val (.int (Int32.ofNat (own_sum ln n))), .unset, .unset, .unset, .unset, .unset] [(.ref a31), (.int (0 : Int32)), (.ref (ck n))])) (fun _ kk => XS.aloadN X40.here hx rfl (hb hby down_bf_79) rfl rfl kk) ?_
    refine own_st (G := T39.setTop (mkF m 82 #[.val (.ref a), .val (.long (0 : Int64)), .second, .val (.ref a31), .val (.int (Int32.ofNat (own_sum ln n))), .unset, .unset, .unset, .unset, .unset] [(.int (Int32.ofNat (own_sum ln n))), (.ref a31), (.int (0 : Int32)), (.ref (ck n))])) (fun _ kk => XS.iload X40.here hx rfl (hb hby down_bf_80) rfl kk) ?_
    refine own_st (G := T39.setTop (mkF m 83 #[.val (.ref a), .val (.long (0 : Int64)), .second, .val (.ref a31), .val (.int (Int32.ofNat (own_sum ln n))), .unset, .unset, .unset, .unset, .unset] [(.ref a), (.int (Int32.ofNat (own_sum ln n))), (.ref a31), (.int (0 : Int32)), (.ref (ck n))])) (fun _ kk => XS.aloadN X40.here hx rfl (hb hby down_bf_82) rfl rfl kk) ?_
    obtain ⟨T43, X44, e45, st46⟩ := getF X40 hx hZ hown (host := "") (Or.inl (own_w hw 32 rfl)) Via.refl e41 (O2).2.2.2.2.2.2.1 (g := (mkF m 83 #[.val (.ref a), .val (.long (0 : Int64)), .second, .val (.ref a31), .val (.int (Int32.ofNat (own_sum ln n))), .unset, .unset, .unset, .unset, .unset] [(.ref a), (.int (Int32.ofNat (own_sum ln n))), (.ref a31), (.int (0 : Int32)), (.ref (ck n))])) rfl rfl (hb hby down_bf_83)
    refine own_st st46 ?_
    show own_Out _ _ _ _ (T43.setTop (mkF m 86 #[.val (.ref a), .val (.long (0 : Int64)), .second, .val (.ref a31), .val (.int (Int32.ofNat (own_sum ln n))), .unset, .unset, .unset, .unset, .unset] [(.int (Int32.ofNat (ln n))), (.int (Int32.ofNat (own_sum ln n))), (.ref a31), (.int (0 : Int32)), (.ref (ck n))]))
    refine own_arraycopyB X44 hx hZ hown (own_w hw 34 rfl) (own_w hw 37 rfl) (own_w hw 35 rfl) (own_w hw 36 rfl) e45 (Fc2 n (Nat.le_refl n)) Fo0 (sp := (0 : Int32)) (dp := (Int32.ofNat (own_sum ln n))) (nn := (Int32.ofNat (ln n))) (i1 := 0) (i2 := (own_sum ln n)) (i3 := (ln n)) (by decide) (own_ixn (by omega)).1 (own_ixn (by have := P9 n (by omega); have := P10 n (by omega); omega)).1 rfl (own_ixn (by omega)).2 (own_ixn (by have := P9 n (by omega); have := P10 n (by omega); omega)).2 (by have := P9 n (by omega); omega) (by omega) N18 go0 (rest := []) (by rw [hml]; rfl) (hb hby down_bf_86) (by decide) 0 (Nat.le_of_eq rfl) (by decide) ?_
    intro T49 h50 L56 X51 e52 N53 K54 F55
    show own_Out _ _ _ _ (T49.setTop (mkF m 89 #[.val (.ref a), .val (.long (0 : Int64)), .second, .val (.ref a31), .val (.int (Int32.ofNat (own_sum ln n))), .unset, .unset, .unset, .unset, .unset] []))
    have E47 := own_ext_keep E28 K54 go
    clear Fe2 Fl2 O2 Fc2
    have Fe2 := own_AR_ext Fe E47
    have Fl2 := own_AI_ext Fl E47
    have O2 := own_B_ext E47 O
    have Fc2 : ∀ i, i ≤ n → own_AB Z h50 (ck i) (cap i) (ct i) := fun i hi => own_AB_ext (Fc i hi) E47
    refine own_st (G := T49.setTop (mkF m 90 #[.val (.ref a), .val (.long (0 : Int64)), .second, .val (.ref a31), .val (.int (Int32.ofNat (own_sum ln n))), .unset, .unset, .unset, .unset, .unset] [(.ref a)])) (fun _ kk => XS.aloadN X51.here hx rfl (hb hby down_bf_89) rfl rfl kk) ?_
    obtain ⟨T57, X58, e59, st60⟩ := getF X51 hx hZ hown (host := "") (Or.inl (own_w hw 43 rfl)) Via.refl e52 (O2).2.2.2.2.2.1 (g := (mkF m 90 #[.val (.ref a), .val (.long (0 : Int64)), .second, .val (.ref a31), .val (.int (Int32.ofNat (own_sum ln n))), .unset, .unset, .unset, .unset, .unset] [(.ref a)])) rfl rfl (hb hby down_bf_90)
    refine own_st st60 ?_
    show own_Out _ _ _ _ (T57.setTop (mkF m 93 #[.val (.ref a), .val (.long (0 : Int64)), .second, .val (.ref a31), .val (.int (Int32.ofNat (own_sum ln n))), .unset, .unset, .unset, .unset, .unset] [(.long (Int64.ofNat (own_sum ln n)))]))
    refine own_st (G := T57.setTop (mkF m 95 #[.val (.ref a), .val (.long (0 : Int64)), .second, .val (.ref a31), .val (.int (Int32.ofNat (own_sum ln n))), .val (.long (Int64.ofNat (own_sum ln n))), .second, .unset, .unset, .unset] [])) (fun _ kk => XS.lstore X58.here hx rfl (hb hby down_bf_93) rfl (l' := #[.val (.ref a), .val (.long (0 : Int64)), .second, .val (.ref a31), .val (.int (Int32.ofNat (own_sum ln n))), .val (.long (Int64.ofNat (own_sum ln n))), .second, .unset, .unset, .unset]) rfl kk) ?_
    refine own_st (G := T57.setTop (mkF m 96 #[.val (.ref a), .val (.long (0 : Int64)), .second, .val (.ref a31), .val (.int (Int32.ofNat (own_sum ln n))), .val (.long (Int64.ofNat (own_sum ln n))), .second, .unset, .unset, .unset] [(.ref a)])) (fun _ kk => XS.aloadN X58.here hx rfl (hb hby down_bf_95) rfl rfl kk) ?_
    obtain ⟨T61, X62, e63, st64⟩ := getF X58 hx hZ hown (host := "") (Or.inl (own_w hw 90 rfl)) Via.refl e59 (O2).2.2.2.2.1 (g := (mkF m 96 #[.val (.ref a), .val (.long (0 : Int64)), .second, .val (.ref a31), .val (.int (Int32.ofNat (own_sum ln n))), .val (.long (Int64.ofNat (own_sum ln n))), .second, .unset, .unset, .unset] [(.ref a)])) rfl rfl (hb hby down_bf_96)
    refine own_st st64 ?_
    show own_Out _ _ _ _ (T61.setTop (mkF m 99 #[.val (.ref a), .val (.long (0 : Int64)), .second, .val (.ref a31), .val (.int (Int32.ofNat (own_sum ln n))), .val (.long (Int64.ofNat (own_sum ln n))), .second, .unset, .unset, .unset] [(.int (Int32.ofNat n))]))
    refine own_st (G := T61.setTop (mkF m 100 #[.val (.ref a), .val (.long (0 : Int64)), .second, .val (.ref a31), .val (.int (Int32.ofNat (own_sum ln n))), .val (.long (Int64.ofNat (own_sum ln n))), .second, .unset, .unset, .unset] [(.int (1 : Int32)), (.int (Int32.ofNat n))])) (fun _ kk => XT.iconstV X62.here hx rfl (1 : Int32) (hb hby down_bf_99) (by decide) kk) ?_
    refine own_st (G := T61.setTop (mkF m 101 #[.val (.ref a), .val (.long (0 : Int64)), .second, .val (.ref a31), .val (.int (Int32.ofNat (own_sum ln n))), .val (.long (Int64.ofNat (own_sum ln n))), .second, .unset, .unset, .unset] [(.int ((Int32.ofNat n) - (1 : Int32)))])) (fun _ kk => XS.isub X62.here hx rfl (hb hby down_bf_100) rfl kk) ?_
    refine own_st (G := T61.setTop (mkF m 103 #[.val (.ref a), .val (.long (0 : Int64)), .second, .val (.ref a31), .val (.int (Int32.ofNat (own_sum ln n))), .val (.long (Int64.ofNat (own_sum ln n))), .second, .val (.int ((Int32.ofNat n) - (1 : Int32))), .unset, .unset] [])) (fun _ kk => XS.istore X62.here hx rfl (hb hby down_bf_101) rfl (l' := #[.val (.ref a), .val (.long (0 : Int64)), .second, .val (.ref a31), .val (.int (Int32.ofNat (own_sum ln n))), .val (.long (Int64.ofNat (own_sum ln n))), .second, .val (.int ((Int32.ofNat n) - (1 : Int32))), .unset, .unset]) rfl kk) ?_
    have lp : ∀ (j : Nat) (T : State) (hh : Heap) (L : List Loc) (g : Nat → Int32) (s8 s9 : Slot), (s8 = .unset ∨ ∃ z, s8 = .val (.int z)) → (s9 = .unset ∨ ∃ z, s9 = .val (.int z)) → Stand p l e ({ frames := 3, cells := 1, slots := 1534, locals := 54 } : Room) s m #[(.ref a), (.long (0 : Int64))] below meth c T L 1 1534 → T.heap = hh → Fr n0 L → Ext h0 hh → own_AB Z hh a31 tt g → (∀ y, own_sum ln j ≤ y → y < tt → g y = F y) → j ≤ n → own_Out p e below (own_Q (Q_own_bf Z a mm tt rr F h0 n0) s ({ frames := 3, cells := 1, slots := 1534, locals := 54 } : Room).cells ({ frames := 3, cells := 1, slots := 1534, locals := 54 } : Room).slots) (T.setTop (mkF m 103 #[.val (.ref a), .val (.long (0 : Int64)), .second, .val (.ref a31), .val (.int (Int32.ofNat (own_sum ln j))), .val (.long (Int64.ofNat (own_sum ln j))), .second, .val (.int ((Int32.ofNat j) - (1 : Int32))), s8, s9] [])) := by
      clear O2 Fe2 Fl2 Fc2
      intro j; induction j with
      | zero =>
        intro T1 h1 L1 g s8 s9 hs8 hs9 X1 e1 N1 E1 Fo1 hg1 hj
        have Fe2 := own_AR_ext Fe E1
        have Fl2 := own_AI_ext Fl E1
        have O2 := own_B_ext E1 O
        have Fc2 : ∀ i, i ≤ n → own_AB Z h1 (ck i) (cap i) (ct i) := fun i hi => own_AB_ext (Fc i hi) E1
        refine own_st (G := T1.setTop (mkF m 105 #[.val (.ref a), .val (.long (0 : Int64)), .second, .val (.ref a31), .val (.int (Int32.ofNat (own_sum ln 0))), .val (.long (Int64.ofNat (own_sum ln 0))), .second, .val (.int ((Int32.ofNat 0) - (1 : Int32))), s8, s9] [(.int (Int32.ofNat (own_sum ln 0)))])) (fun _ kk => XS.iload X1.here hx rfl (hb hby down_bf_103) rfl kk) ?_
        have hk65 : ¬ ((0 : Int32) < (Int32.ofNat (own_sum ln 0))) := (by show ¬ (0 : Int32) < Int32.ofNat 0; decide)
        refine own_st (G := T1.setTop (mkF m 174 #[.val (.ref a), .val (.long (0 : Int64)), .second, .val (.ref a31), .val (.int (Int32.ofNat (own_sum ln 0))), .val (.long (Int64.ofNat (own_sum ln 0))), .second, .val (.int ((Int32.ofNat 0) - (1 : Int32))), s8, s9] [])) (fun _ kk => XS.ifYes X1.here hx rfl (pc0 := 105) (pc' := 174) rfl (hb hby down_bf_105) rfl (XT.i0_le_t hk65) (by decide) (by decide) kk) ?_
        refine own_st (G := T1.setTop (mkF m 175 #[.val (.ref a), .val (.long (0 : Int64)), .second, .val (.ref a31), .val (.int (Int32.ofNat (own_sum ln 0))), .val (.long (Int64.ofNat (own_sum ln 0))), .second, .val (.int ((Int32.ofNat 0) - (1 : Int32))), s8, s9] [(.ref a31)])) (fun _ kk => XS.aloadN X1.here hx rfl (hb hby down_bf_174) rfl rfl kk) ?_
        refine own_retA X1 hx hret rfl rfl hlk (hb hby down_bf_175) (by decide) (by decide) ?_
        have hz : own_sum ln 0 = 0 := rfl
        rw [e1]
        exact ⟨_, rfl, N1, E1, go, own_AB_congr Fo1 (fun y hy => hg1 y (by omega) hy)⟩
      | succ k ih =>
        intro T1 h1 L1 g s8 s9 hs8 hs9 X1 e1 N1 E1 Fo1 hg1 hj
        have Fe2 := own_AR_ext Fe E1
        have Fl2 := own_AI_ext Fl E1
        have O2 := own_B_ext E1 O
        have Fc2 : ∀ i, i ≤ n → own_AB Z h1 (ck i) (cap i) (ct i) := fun i hi => own_AB_ext (Fc i hi) E1
        have hm1 : own_sum ln (k + 1) ≤ own_sum ln (n + 1) := own_sum_mono ln (by omega)
        have hm2 : own_sum ln (k + 1) = own_sum ln k + ln k := rfl
        rw [show ((Int32.ofNat (k + 1)) - (1 : Int32)) = (Int32.ofNat k) from (own_subI (y := 1) (by omega) (by omega)).trans (congrArg Int32.ofNat (by omega))]
        refine own_st (G := T1.setTop (mkF m 105 #[.val (.ref a), .val (.long (0 : Int64)), .second, .val (.ref a31), .val (.int (Int32.ofNat (own_sum ln (k + 1)))), .val (.long (Int64.ofNat (own_sum ln (k + 1)))), .second, .val (.int (Int32.ofNat k)), s8, s9] [(.int (Int32.ofNat (own_sum ln (k + 1))))])) (fun _ kk => XS.iload X1.here hx rfl (hb hby down_bf_103) rfl kk) ?_
        by_cases hc66 : (0 : Int32) < (Int32.ofNat (own_sum ln (k + 1)))
        · skip
          refine own_st (G := T1.setTop (mkF m 108 #[.val (.ref a), .val (.long (0 : Int64)), .second, .val (.ref a31), .val (.int (Int32.ofNat (own_sum ln (k + 1)))), .val (.long (Int64.ofNat (own_sum ln (k + 1)))), .second, .val (.int (Int32.ofNat k)), s8, s9] [])) (fun _ kk => XS.ifNo X1.here hx rfl (hb hby down_bf_105) rfl (XT.i0_le_f hc66) kk) ?_
          refine own_st (G := T1.setTop (mkF m 110 #[.val (.ref a), .val (.long (0 : Int64)), .second, .val (.ref a31), .val (.int (Int32.ofNat (own_sum ln (k + 1)))), .val (.long (Int64.ofNat (own_sum ln (k + 1)))), .second, .val (.int (Int32.ofNat k)), s8, s9] [(.long (Int64.ofNat (own_sum ln (k + 1))))])) (fun _ kk => XS.lload X1.here hx rfl (hb hby down_bf_108) rfl kk) ?_
          refine own_st (G := T1.setTop (mkF m 111 #[.val (.ref a), .val (.long (0 : Int64)), .second, .val (.ref a31), .val (.int (Int32.ofNat (own_sum ln (k + 1)))), .val (.long (Int64.ofNat (own_sum ln (k + 1)))), .second, .val (.int (Int32.ofNat k)), s8, s9] [(.ref a), (.long (Int64.ofNat (own_sum ln (k + 1))))])) (fun _ kk => XS.aloadN X1.here hx rfl (hb hby down_bf_110) rfl rfl kk) ?_
          obtain ⟨T67, X68, e69, st70⟩ := getF X1 hx hZ hown (host := "") (Or.inl (own_w hw 19 rfl)) Via.refl e1 (O2).2.2.2.1 (g := (mkF m 111 #[.val (.ref a), .val (.long (0 : Int64)), .second, .val (.ref a31), .val (.int (Int32.ofNat (own_sum ln (k + 1)))), .val (.long (Int64.ofNat (own_sum ln (k + 1)))), .second, .val (.int (Int32.ofNat k)), s8, s9] [(.ref a), (.long (Int64.ofNat (own_sum ln (k + 1))))])) rfl rfl (hb hby down_bf_111)
          refine own_st st70 ?_
          show own_Out _ _ _ _ (T67.setTop (mkF m 114 #[.val (.ref a), .val (.long (0 : Int64)), .second, .val (.ref a31), .val (.int (Int32.ofNat (own_sum ln (k + 1)))), .val (.long (Int64.ofNat (own_sum ln (k + 1)))), .second, .val (.int (Int32.ofNat k)), s8, s9] [(.ref la), (.long (Int64.ofNat (own_sum ln (k + 1))))]))
          refine own_st (G := T67.setTop (mkF m 116 #[.val (.ref a), .val (.long (0 : Int64)), .second, .val (.ref a31), .val (.int (Int32.ofNat (own_sum ln (k + 1)))), .val (.long (Int64.ofNat (own_sum ln (k + 1)))), .second, .val (.int (Int32.ofNat k)), s8, s9] [(.int (Int32.ofNat k)), (.ref la), (.long (Int64.ofNat (own_sum ln (k + 1))))])) (fun _ kk => XS.iload X68.here hx rfl (hb hby down_bf_114) rfl kk) ?_
          refine own_iaload X68 hx hZ e69 Fl2 (j := (Int32.ofNat k)) (i := k) (own_ixn (n := k) (by omega)).1 (own_ixn (n := k) (by omega)).2 (by omega) (hb hby down_bf_116) ?_
          show own_Out _ _ _ _ (T67.setTop (mkF m 117 #[.val (.ref a), .val (.long (0 : Int64)), .second, .val (.ref a31), .val (.int (Int32.ofNat (own_sum ln (k + 1)))), .val (.long (Int64.ofNat (own_sum ln (k + 1)))), .second, .val (.int (Int32.ofNat k)), s8, s9] [(.int (fl k)), (.long (Int64.ofNat (own_sum ln (k + 1))))]))
          rw [show (fl k) = (Int32.ofNat (ln k)) from P8 k (by omega)]
          refine own_st (G := T67.setTop (mkF m 118 #[.val (.ref a), .val (.long (0 : Int64)), .second, .val (.ref a31), .val (.int (Int32.ofNat (own_sum ln (k + 1)))), .val (.long (Int64.ofNat (own_sum ln (k + 1)))), .second, .val (.int (Int32.ofNat k)), s8, s9] [(.long (Int32.ofNat (ln k)).toInt64), (.long (Int64.ofNat (own_sum ln (k + 1))))])) (fun _ kk => XS.i2l X68.here hx rfl (hb hby down_bf_117) rfl kk) ?_
          rw [show (Int32.ofNat (ln k)).toInt64 = (Int64.ofNat (ln k)) from own_i64 (by omega)]
          refine own_st (G := T67.setTop (mkF m 119 #[.val (.ref a), .val (.long (0 : Int64)), .second, .val (.ref a31), .val (.int (Int32.ofNat (own_sum ln (k + 1)))), .val (.long (Int64.ofNat (own_sum ln (k + 1)))), .second, .val (.int (Int32.ofNat k)), s8, s9] [(.long ((Int64.ofNat (own_sum ln (k + 1))) - (Int64.ofNat (ln k))))])) (fun _ kk => XS.lsub X68.here hx rfl (hb hby down_bf_118) rfl kk) ?_
          rw [show ((Int64.ofNat (own_sum ln (k + 1))) - (Int64.ofNat (ln k))) = (Int64.ofNat (own_sum ln k)) from (own_subJ (by omega) (by omega)).trans (congrArg Int64.ofNat (by omega))]
          refine own_st (G := T67.setTop (mkF m 121 #[.val (.ref a), .val (.long (0 : Int64)), .second, .val (.ref a31), .val (.int (Int32.ofNat (own_sum ln (k + 1)))), .val (.long (Int64.ofNat (own_sum ln k))), .second, .val (.int (Int32.ofNat k)), s8, s9] [])) (fun _ kk => XS.lstore X68.here hx rfl (hb hby down_bf_119) rfl (l' := #[.val (.ref a), .val (.long (0 : Int64)), .second, .val (.ref a31), .val (.int (Int32.ofNat (own_sum ln (k + 1)))), .val (.long (Int64.ofNat (own_sum ln k))), .second, .val (.int (Int32.ofNat k)), s8, s9]) rfl kk) ?_
          refine own_st (G := T67.setTop (mkF m 122 #[.val (.ref a), .val (.long (0 : Int64)), .second, .val (.ref a31), .val (.int (Int32.ofNat (own_sum ln (k + 1)))), .val (.long (Int64.ofNat (own_sum ln k))), .second, .val (.int (Int32.ofNat k)), s8, s9] [(.long (0 : Int64))])) (fun _ kk => XT.lconstV X68.here hx rfl (0 : Int64) (hb hby down_bf_121) (by decide) kk) ?_
          refine own_st (G := T67.setTop (mkF m 123 #[.val (.ref a), .val (.long (0 : Int64)), .second, .val (.ref a31), .val (.int (Int32.ofNat (own_sum ln (k + 1)))), .val (.long (Int64.ofNat (own_sum ln k))), .second, .val (.int (Int32.ofNat k)), s8, s9] [(.long (0 : Int64)), (.long (0 : Int64))])) (fun _ kk => XS.lloadN X68.here hx rfl (hb hby down_bf_122) rfl kk) ?_
          refine own_st (G := T67.setTop (mkF m 125 #[.val (.ref a), .val (.long (0 : Int64)), .second, .val (.ref a31), .val (.int (Int32.ofNat (own_sum ln (k + 1)))), .val (.long (Int64.ofNat (own_sum ln k))), .second, .val (.int (Int32.ofNat k)), s8, s9] [(.long (Int64.ofNat (own_sum ln k))), (.long (0 : Int64)), (.long (0 : Int64))])) (fun _ kk => XS.lload X68.here hx rfl (hb hby down_bf_123) rfl kk) ?_
          refine own_st (G := T67.setTop (mkF m 126 #[.val (.ref a), .val (.long (0 : Int64)), .second, .val (.ref a31), .val (.int (Int32.ofNat (own_sum ln (k + 1)))), .val (.long (Int64.ofNat (own_sum ln k))), .second, .val (.int (Int32.ofNat k)), s8, s9] [(.long ((0 : Int64) - (Int64.ofNat (own_sum ln k)))), (.long (0 : Int64))])) (fun _ kk => XS.lsub X68.here hx rfl (hb hby down_bf_125) rfl kk) ?_
          refine own_callS X68 hx hZ (y := (⟨"java/lang/Math", "max", "(JJ)J"⟩ : MethodName)) (as' := [(.long (0 : Int64)), (.long ((0 : Int64) - (Int64.ofNat (own_sum ln k))))]) hown (own_w hw 97 rfl) (own_w hw 98 rfl) (own_w hw 78 rfl) (own_w hw 99 rfl) (by decide) (own_wmaxJ l Z a0 hw [] (0 : Int64) ((0 : Int64) - (Int64.ofNat (own_sum ln k))) h1 n0) 0 (by decide) (by decide) (by decide) (by decide) (rest := []) (by rw [hml]; rfl) (lenOf (by decide : parseMethodDescriptor "(JJ)J" = some ⟨[.long, .long], some (.long)⟩) rfl) rfl (Nat.le_of_eq rfl) (hb hby down_bf_126) e69 ?_
          intro T73 L74 v76 X75 hQ
          obtain ⟨rfl, rfl, eq71⟩ := hQ
          show own_Out _ _ _ _ (T73.setTop (mkF m 129 #[.val (.ref a), .val (.long (0 : Int64)), .second, .val (.ref a31), .val (.int (Int32.ofNat (own_sum ln (k + 1)))), .val (.long (Int64.ofNat (own_sum ln k))), .second, .val (.int (Int32.ofNat k)), s8, s9] [(.long (own_maxJ (0 : Int64) ((0 : Int64) - (Int64.ofNat (own_sum ln k)))))]))
          have N72 := Fr.app N1 (Fr.nil n0)
          rw [show (own_maxJ (0 : Int64) ((0 : Int64) - (Int64.ofNat (own_sum ln k)))) = (0 : Int64) from own_max0 (by omega)]
          refine own_st (G := T73.setTop (mkF m 130 #[.val (.ref a), .val (.long (0 : Int64)), .second, .val (.ref a31), .val (.int (Int32.ofNat (own_sum ln (k + 1)))), .val (.long (Int64.ofNat (own_sum ln k))), .second, .val (.int (Int32.ofNat k)), s8, s9] [(.int (0 : Int64).toInt32)])) (fun _ kk => XS.l2i X75.here hx rfl (hb hby down_bf_129) rfl kk) ?_
          rw [show (0 : Int64).toInt32 = (0 : Int32) from (by decide)]
          refine own_st (G := T73.setTop (mkF m 132 #[.val (.ref a), .val (.long (0 : Int64)), .second, .val (.ref a31), .val (.int (Int32.ofNat (own_sum ln (k + 1)))), .val (.long (Int64.ofNat (own_sum ln k))), .second, .val (.int (Int32.ofNat k)), .val (.int (0 : Int32)), s9] [])) (fun _ kk => by rcases hs8 with hz | ⟨z, hz⟩ <;> subst hz <;> exact XS.istore X75.here hx rfl (hb hby down_bf_130) rfl (l' := #[.val (.ref a), .val (.long (0 : Int64)), .second, .val (.ref a31), .val (.int (Int32.ofNat (own_sum ln (k + 1)))), .val (.long (Int64.ofNat (own_sum ln k))), .second, .val (.int (Int32.ofNat k)), .val (.int (0 : Int32)), s9]) rfl kk) ?_
          refine own_st (G := T73.setTop (mkF m 133 #[.val (.ref a), .val (.long (0 : Int64)), .second, .val (.ref a31), .val (.int (Int32.ofNat (own_sum ln (k + 1)))), .val (.long (Int64.ofNat (own_sum ln k))), .second, .val (.int (Int32.ofNat k)), .val (.int (0 : Int32)), s9] [(.ref a)])) (fun _ kk => XS.aloadN X75.here hx rfl (hb hby down_bf_132) rfl rfl kk) ?_
          obtain ⟨T77, X78, e79, st80⟩ := getF X75 hx hZ hown (host := "") (Or.inl (own_w hw 19 rfl)) Via.refl eq71 (O2).2.2.2.1 (g := (mkF m 133 #[.val (.ref a), .val (.long (0 : Int64)), .second, .val (.ref a31), .val (.int (Int32.ofNat (own_sum ln (k + 1)))), .val (.long (Int64.ofNat (own_sum ln k))), .second, .val (.int (Int32.ofNat k)), .val (.int (0 : Int32)), s9] [(.ref a)])) rfl rfl (hb hby down_bf_133)
          refine own_st st80 ?_
          show own_Out _ _ _ _ (T77.setTop (mkF m 136 #[.val (.ref a), .val (.long (0 : Int64)), .second, .val (.ref a31), .val (.int (Int32.ofNat (own_sum ln (k + 1)))), .val (.long (Int64.ofNat (own_sum ln k))), .second, .val (.int (Int32.ofNat k)), .val (.int (0 : Int32)), s9] [(.ref la)]))
          refine own_st (G := T77.setTop (mkF m 138 #[.val (.ref a), .val (.long (0 : Int64)), .second, .val (.ref a31), .val (.int (Int32.ofNat (own_sum ln (k + 1)))), .val (.long (Int64.ofNat (own_sum ln k))), .second, .val (.int (Int32.ofNat k)), .val (.int (0 : Int32)), s9] [(.int (Int32.ofNat k)), (.ref la)])) (fun _ kk => XS.iload X78.here hx rfl (hb hby down_bf_136) rfl kk) ?_
          refine own_iaload X78 hx hZ e79 Fl2 (j := (Int32.ofNat k)) (i := k) (own_ixn (n := k) (by omega)).1 (own_ixn (n := k) (by omega)).2 (by omega) (hb hby down_bf_138) ?_
          show own_Out _ _ _ _ (T77.setTop (mkF m 139 #[.val (.ref a), .val (.long (0 : Int64)), .second, .val (.ref a31), .val (.int (Int32.ofNat (own_sum ln (k + 1)))), .val (.long (Int64.ofNat (own_sum ln k))), .second, .val (.int (Int32.ofNat k)), .val (.int (0 : Int32)), s9] [(.int (fl k))]))
          rw [show (fl k) = (Int32.ofNat (ln k)) from P8 k (by omega)]
          refine own_st (G := T77.setTop (mkF m 141 #[.val (.ref a), .val (.long (0 : Int64)), .second, .val (.ref a31), .val (.int (Int32.ofNat (own_sum ln (k + 1)))), .val (.long (Int64.ofNat (own_sum ln k))), .second, .val (.int (Int32.ofNat k)), .val (.int (0 : Int32)), s9] [(.int (0 : Int32)), (.int (Int32.ofNat (ln k)))])) (fun _ kk => XS.iload X78.here hx rfl (hb hby down_bf_139) rfl kk) ?_
          refine own_st (G := T77.setTop (mkF m 142 #[.val (.ref a), .val (.long (0 : Int64)), .second, .val (.ref a31), .val (.int (Int32.ofNat (own_sum ln (k + 1)))), .val (.long (Int64.ofNat (own_sum ln k))), .second, .val (.int (Int32.ofNat k)), .val (.int (0 : Int32)), s9] [(.int ((Int32.ofNat (ln k)) - (0 : Int32)))])) (fun _ kk => XS.isub X78.here hx rfl (hb hby down_bf_141) rfl kk) ?_
          rw [show ((Int32.ofNat (ln k)) - (0 : Int32)) = (Int32.ofNat (ln k)) from own_sub0I _]
          refine own_st (G := T77.setTop (mkF m 144 #[.val (.ref a), .val (.long (0 : Int64)), .second, .val (.ref a31), .val (.int (Int32.ofNat (own_sum ln (k + 1)))), .val (.long (Int64.ofNat (own_sum ln k))), .second, .val (.int (Int32.ofNat k)), .val (.int (0 : Int32)), .val (.int (Int32.ofNat (ln k)))] [])) (fun _ kk => by rcases hs9 with hz | ⟨z, hz⟩ <;> subst hz <;> exact XS.istore X78.here hx rfl (hb hby down_bf_142) rfl (l' := #[.val (.ref a), .val (.long (0 : Int64)), .second, .val (.ref a31), .val (.int (Int32.ofNat (own_sum ln (k + 1)))), .val (.long (Int64.ofNat (own_sum ln k))), .second, .val (.int (Int32.ofNat k)), .val (.int (0 : Int32)), .val (.int (Int32.ofNat (ln k)))]) rfl kk) ?_
          refine own_st (G := T77.setTop (mkF m 146 #[.val (.ref a), .val (.long (0 : Int64)), .second, .val (.ref a31), .val (.int (Int32.ofNat (own_sum ln (k + 1)))), .val (.long (Int64.ofNat (own_sum ln k))), .second, .val (.int (Int32.ofNat k)), .val (.int (0 : Int32)), .val (.int (Int32.ofNat (ln k)))] [(.int (Int32.ofNat (own_sum ln (k + 1))))])) (fun _ kk => XS.iload X78.here hx rfl (hb hby down_bf_144) rfl kk) ?_
          refine own_st (G := T77.setTop (mkF m 148 #[.val (.ref a), .val (.long (0 : Int64)), .second, .val (.ref a31), .val (.int (Int32.ofNat (own_sum ln (k + 1)))), .val (.long (Int64.ofNat (own_sum ln k))), .second, .val (.int (Int32.ofNat k)), .val (.int (0 : Int32)), .val (.int (Int32.ofNat (ln k)))] [(.int (Int32.ofNat (ln k))), (.int (Int32.ofNat (own_sum ln (k + 1))))])) (fun _ kk => XS.iload X78.here hx rfl (hb hby down_bf_146) rfl kk) ?_
          refine own_st (G := T77.setTop (mkF m 149 #[.val (.ref a), .val (.long (0 : Int64)), .second, .val (.ref a31), .val (.int (Int32.ofNat (own_sum ln (k + 1)))), .val (.long (Int64.ofNat (own_sum ln k))), .second, .val (.int (Int32.ofNat k)), .val (.int (0 : Int32)), .val (.int (Int32.ofNat (ln k)))] [(.int ((Int32.ofNat (own_sum ln (k + 1))) - (Int32.ofNat (ln k))))])) (fun _ kk => XS.isub X78.here hx rfl (hb hby down_bf_148) rfl kk) ?_
          rw [show ((Int32.ofNat (own_sum ln (k + 1))) - (Int32.ofNat (ln k))) = (Int32.ofNat (own_sum ln k)) from (own_subI (by omega) (by omega)).trans (congrArg Int32.ofNat (by omega))]
          refine own_st (G := T77.setTop (mkF m 151 #[.val (.ref a), .val (.long (0 : Int64)), .second, .val (.ref a31), .val (.int (Int32.ofNat (own_sum ln k))), .val (.long (Int64.ofNat (own_sum ln k))), .second, .val (.int (Int32.ofNat k)), .val (.int (0 : Int32)), .val (.int (Int32.ofNat (ln k)))] [])) (fun _ kk => XS.istore X78.here hx rfl (hb hby down_bf_149) rfl (l' := #[.val (.ref a), .val (.long (0 : Int64)), .second, .val (.ref a31), .val (.int (Int32.ofNat (own_sum ln k))), .val (.long (Int64.ofNat (own_sum ln k))), .second, .val (.int (Int32.ofNat k)), .val (.int (0 : Int32)), .val (.int (Int32.ofNat (ln k)))]) rfl kk) ?_
          refine own_st (G := T77.setTop (mkF m 152 #[.val (.ref a), .val (.long (0 : Int64)), .second, .val (.ref a31), .val (.int (Int32.ofNat (own_sum ln k))), .val (.long (Int64.ofNat (own_sum ln k))), .second, .val (.int (Int32.ofNat k)), .val (.int (0 : Int32)), .val (.int (Int32.ofNat (ln k)))] [(.ref a)])) (fun _ kk => XS.aloadN X78.here hx rfl (hb hby down_bf_151) rfl rfl kk) ?_
          obtain ⟨T81, X82, e83, st84⟩ := getF X78 hx hZ hown (host := "") (Or.inl (own_w hw 16 rfl)) Via.refl e79 (O2).2.2.1 (g := (mkF m 152 #[.val (.ref a), .val (.long (0 : Int64)), .second, .val (.ref a31), .val (.int (Int32.ofNat (own_sum ln k))), .val (.long (Int64.ofNat (own_sum ln k))), .second, .val (.int (Int32.ofNat k)), .val (.int (0 : Int32)), .val (.int (Int32.ofNat (ln k)))] [(.ref a)])) rfl rfl (hb hby down_bf_152)
          refine own_st st84 ?_
          show own_Out _ _ _ _ (T81.setTop (mkF m 155 #[.val (.ref a), .val (.long (0 : Int64)), .second, .val (.ref a31), .val (.int (Int32.ofNat (own_sum ln k))), .val (.long (Int64.ofNat (own_sum ln k))), .second, .val (.int (Int32.ofNat k)), .val (.int (0 : Int32)), .val (.int (Int32.ofNat (ln k)))] [(.ref ea)]))
          refine own_st (G := T81.setTop (mkF m 157 #[.val (.ref a), .val (.long (0 : Int64)), .second, .val (.ref a31), .val (.int (Int32.ofNat (own_sum ln k))), .val (.long (Int64.ofNat (own_sum ln k))), .second, .val (.int (Int32.ofNat k)), .val (.int (0 : Int32)), .val (.int (Int32.ofNat (ln k)))] [(.int (Int32.ofNat k)), (.ref ea)])) (fun _ kk => XS.iload X82.here hx rfl (hb hby down_bf_155) rfl kk) ?_
          refine own_aaload X82 hx hZ e83 Fe2 (j := (Int32.ofNat k)) (i := k) (own_ixn (n := k) (by omega)).1 (own_ixn (n := k) (by omega)).2 (by omega) (v := (.ref (ck k))) (P7 k (by omega)) (hb hby down_bf_157) ?_
          show own_Out _ _ _ _ (T81.setTop (mkF m 158 #[.val (.ref a), .val (.long (0 : Int64)), .second, .val (.ref a31), .val (.int (Int32.ofNat (own_sum ln k))), .val (.long (Int64.ofNat (own_sum ln k))), .second, .val (.int (Int32.ofNat k)), .val (.int (0 : Int32)), .val (.int (Int32.ofNat (ln k)))] [(.ref (ck k))]))
          refine own_st (G := T81.setTop (mkF m 160 #[.val (.ref a), .val (.long (0 : Int64)), .second, .val (.ref a31), .val (.int (Int32.ofNat (own_sum ln k))), .val (.long (Int64.ofNat (own_sum ln k))), .second, .val (.int (Int32.ofNat k)), .val (.int (0 : Int32)), .val (.int (Int32.ofNat (ln k)))] [(.int (0 : Int32)), (.ref (ck k))])) (fun _ kk => XS.iload X82.here hx rfl (hb hby down_bf_158) rfl kk) ?_
          refine own_st (G := T81.setTop (mkF m 161 #[.val (.ref a), .val (.long (0 : Int64)), .second, .val (.ref a31), .val (.int (Int32.ofNat (own_sum ln k))), .val (.long (Int64.ofNat (own_sum ln k))), .second, .val (.int (Int32.ofNat k)), .val (.int (0 : Int32)), .val (.int (Int32.ofNat (ln k)))] [(.ref a31), (.int (0 : Int32)), (.ref (ck k))])) (fun _ kk => XS.aloadN X82.here hx rfl (hb hby down_bf_160) rfl rfl kk) ?_
          refine own_st (G := T81.setTop (mkF m 163 #[.val (.ref a), .val (.long (0 : Int64)), .second, .val (.ref a31), .val (.int (Int32.ofNat (own_sum ln k))), .val (.long (Int64.ofNat (own_sum ln k))), .second, .val (.int (Int32.ofNat k)), .val (.int (0 : Int32)), .val (.int (Int32.ofNat (ln k)))] [(.int (Int32.ofNat (own_sum ln k))), (.ref a31), (.int (0 : Int32)), (.ref (ck k))])) (fun _ kk => XS.iload X82.here hx rfl (hb hby down_bf_161) rfl kk) ?_
          refine own_st (G := T81.setTop (mkF m 165 #[.val (.ref a), .val (.long (0 : Int64)), .second, .val (.ref a31), .val (.int (Int32.ofNat (own_sum ln k))), .val (.long (Int64.ofNat (own_sum ln k))), .second, .val (.int (Int32.ofNat k)), .val (.int (0 : Int32)), .val (.int (Int32.ofNat (ln k)))] [(.int (Int32.ofNat (ln k))), (.int (Int32.ofNat (own_sum ln k))), (.ref a31), (.int (0 : Int32)), (.ref (ck k))])) (fun _ kk => XS.iload X82.here hx rfl (hb hby down_bf_163) rfl kk) ?_
          refine own_arraycopyB X82 hx hZ hown (own_w hw 34 rfl) (own_w hw 37 rfl) (own_w hw 35 rfl) (own_w hw 36 rfl) e83 (Fc2 k (by omega)) Fo1 (sp := (0 : Int32)) (dp := (Int32.ofNat (own_sum ln k))) (nn := (Int32.ofNat (ln k))) (i1 := 0) (i2 := (own_sum ln k)) (i3 := (ln k)) (by decide) (own_ixn (by omega)).1 (own_ixn (by have := P9 k (by omega); have := P10 k (by omega); omega)).1 rfl (own_ixn (by omega)).2 (own_ixn (by have := P9 k (by omega); have := P10 k (by omega); omega)).2 (by have := P9 k (by omega); omega) (by omega) N72 go0 (rest := []) (by rw [hml]; rfl) (hb hby down_bf_165) (by decide) 0 (Nat.le_of_eq rfl) (by decide) ?_
          intro T87 h88 L94 X89 e90 N91 K92 F93
          show own_Out _ _ _ _ (T87.setTop (mkF m 168 #[.val (.ref a), .val (.long (0 : Int64)), .second, .val (.ref a31), .val (.int (Int32.ofNat (own_sum ln k))), .val (.long (Int64.ofNat (own_sum ln k))), .second, .val (.int (Int32.ofNat k)), .val (.int (0 : Int32)), .val (.int (Int32.ofNat (ln k)))] []))
          have E85 := own_ext_keep E1 K92 go
          clear Fe2 Fl2 O2 Fc2
          have Fe2 := own_AR_ext Fe E85
          have Fl2 := own_AI_ext Fl E85
          have O2 := own_B_ext E85 O
          have Fc2 : ∀ i, i ≤ n → own_AB Z h88 (ck i) (cap i) (ct i) := fun i hi => own_AB_ext (Fc i hi) E85
          refine own_st (G := T87.setTop (mkF m 171 #[.val (.ref a), .val (.long (0 : Int64)), .second, .val (.ref a31), .val (.int (Int32.ofNat (own_sum ln k))), .val (.long (Int64.ofNat (own_sum ln k))), .second, .val (.int ((Int32.ofNat k) + (-1 : Int32))), .val (.int (0 : Int32)), .val (.int (Int32.ofNat (ln k)))] [])) (fun _ kk => XT.iincV X89.here hx rfl (-1 : Int32) (hb hby down_bf_168) (by decide) rfl (l' := #[.val (.ref a), .val (.long (0 : Int64)), .second, .val (.ref a31), .val (.int (Int32.ofNat (own_sum ln k))), .val (.long (Int64.ofNat (own_sum ln k))), .second, .val (.int ((Int32.ofNat k) + (-1 : Int32))), .val (.int (0 : Int32)), .val (.int (Int32.ofNat (ln k)))]) rfl kk) ?_
          refine own_st (G := T87.setTop (mkF m 103 #[.val (.ref a), .val (.long (0 : Int64)), .second, .val (.ref a31), .val (.int (Int32.ofNat (own_sum ln k))), .val (.long (Int64.ofNat (own_sum ln k))), .second, .val (.int ((Int32.ofNat k) + (-1 : Int32))), .val (.int (0 : Int32)), .val (.int (Int32.ofNat (ln k)))] [])) (fun _ kk => XS.goto X89.here hx rfl (pc0 := 171) (pc' := 103) rfl (hb hby down_bf_171) (by decide) (by decide) kk) ?_
          rw [own_dec]
          exact ih _ _ _ _ _ _ (Or.inr ⟨_, rfl⟩) (Or.inr ⟨_, rfl⟩) X89 e90 N91 E85 F93 (own_hg (k := k) (by omega) hF hg1 (by omega)) (by omega)
        · skip
          refine own_st (G := T1.setTop (mkF m 174 #[.val (.ref a), .val (.long (0 : Int64)), .second, .val (.ref a31), .val (.int (Int32.ofNat (own_sum ln (k + 1)))), .val (.long (Int64.ofNat (own_sum ln (k + 1)))), .second, .val (.int (Int32.ofNat k)), s8, s9] [])) (fun _ kk => XS.ifYes X1.here hx rfl (pc0 := 105) (pc' := 174) rfl (hb hby down_bf_105) rfl (XT.i0_le_t hc66) (by decide) (by decide) kk) ?_
          refine own_st (G := T1.setTop (mkF m 175 #[.val (.ref a), .val (.long (0 : Int64)), .second, .val (.ref a31), .val (.int (Int32.ofNat (own_sum ln (k + 1)))), .val (.long (Int64.ofNat (own_sum ln (k + 1)))), .second, .val (.int (Int32.ofNat k)), s8, s9] [(.ref a31)])) (fun _ kk => XS.aloadN X1.here hx rfl (hb hby down_bf_174) rfl rfl kk) ?_
          refine own_retA X1 hx hret rfl rfl hlk (hb hby down_bf_175) (by decide) (by decide) ?_
          have hz : own_sum ln (k + 1) = 0 := (by have := mt (own_pos (x := own_sum ln (k + 1)) (by omega)).2.mpr hc66; omega)
          rw [e1]
          exact ⟨_, rfl, N1, E1, go, own_AB_congr Fo1 (fun y hy => hg1 y (by omega) hy)⟩
    exact lp n _ _ _ _ _ _ (Or.inl rfl) (Or.inl rfl) X62 e63 N53 E47 F55 (own_hg (k := n) (by omega) hF (fun y h1 h2 => absurd h2 (by omega)) (by omega)) (Nat.le_refl n)
  · skip
    refine own_st (G := T12.setTop (mkF m 36 #[.val (.ref a), .val (.long (0 : Int64)), .second, .unset, .unset, .unset, .unset, .unset, .unset, .unset] [])) (fun _ kk => XS.ifNo X13.here hx rfl (hb hby down_bf_33) rfl (XT.ll_lt_f hc16) kk) ?_
    refine own_st (G := T12.setTop (mkF m 37 #[.val (.ref a), .val (.long (0 : Int64)), .second, .unset, .unset, .unset, .unset, .unset, .unset, .unset] [(.ref a)])) (fun _ kk => XS.aloadN X13.here hx rfl (hb hby down_bf_36) rfl rfl kk) ?_
    obtain ⟨T95, X96, e97, st98⟩ := getF X13 hx hZ hown (host := "") (Or.inl (own_w hw 12 rfl)) Via.refl e14 (O).2.1 (g := (mkF m 37 #[.val (.ref a), .val (.long (0 : Int64)), .second, .unset, .unset, .unset, .unset, .unset, .unset, .unset] [(.ref a)])) rfl rfl (hb hby down_bf_37)
    refine own_st st98 ?_
    show own_Out _ _ _ _ (T95.setTop (mkF m 40 #[.val (.ref a), .val (.long (0 : Int64)), .second, .unset, .unset, .unset, .unset, .unset, .unset, .unset] [(.ref (ck n))]))
    refine own_st (G := T95.setTop (mkF m 41 #[.val (.ref a), .val (.long (0 : Int64)), .second, .unset, .unset, .unset, .unset, .unset, .unset, .unset] [(.long (0 : Int64)), (.ref (ck n))])) (fun _ kk => XS.lloadN X96.here hx rfl (hb hby down_bf_40) rfl kk) ?_
    refine own_st (G := T95.setTop (mkF m 42 #[.val (.ref a), .val (.long (0 : Int64)), .second, .unset, .unset, .unset, .unset, .unset, .unset, .unset] [(.ref a), (.long (0 : Int64)), (.ref (ck n))])) (fun _ kk => XS.aloadN X96.here hx rfl (hb hby down_bf_41) rfl rfl kk) ?_
    obtain ⟨T99, X100, e101, st102⟩ := getF X96 hx hZ hown (host := "") (Or.inl (own_w hw 43 rfl)) Via.refl e97 (O).2.2.2.2.2.1 (g := (mkF m 42 #[.val (.ref a), .val (.long (0 : Int64)), .second, .unset, .unset, .unset, .unset, .unset, .unset, .unset] [(.ref a), (.long (0 : Int64)), (.ref (ck n))])) rfl rfl (hb hby down_bf_42)
    refine own_st st102 ?_
    show own_Out _ _ _ _ (T99.setTop (mkF m 45 #[.val (.ref a), .val (.long (0 : Int64)), .second, .unset, .unset, .unset, .unset, .unset, .unset, .unset] [(.long (Int64.ofNat (own_sum ln n))), (.long (0 : Int64)), (.ref (ck n))]))
    refine own_st (G := T99.setTop (mkF m 46 #[.val (.ref a), .val (.long (0 : Int64)), .second, .unset, .unset, .unset, .unset, .unset, .unset, .unset] [(.long ((0 : Int64) - (Int64.ofNat (own_sum ln n)))), (.ref (ck n))])) (fun _ kk => XS.lsub X100.here hx rfl (hb hby down_bf_45) rfl kk) ?_
    have hs0 : own_sum ln n = 0 := by have := mt (own_pos (x := own_sum ln n) (by omega)).1.mpr hc16; omega
    rw [show ((0 : Int64) - (Int64.ofNat (own_sum ln n))) = (0 : Int64) from (by rw [hs0]; decide)]
    refine own_st (G := T99.setTop (mkF m 47 #[.val (.ref a), .val (.long (0 : Int64)), .second, .unset, .unset, .unset, .unset, .unset, .unset, .unset] [(.int (0 : Int64).toInt32), (.ref (ck n))])) (fun _ kk => XS.l2i X100.here hx rfl (hb hby down_bf_46) rfl kk) ?_
    rw [show (0 : Int64).toInt32 = (0 : Int32) from (by decide)]
    refine own_st (G := T99.setTop (mkF m 48 #[.val (.ref a), .val (.long (0 : Int64)), .second, .unset, .unset, .unset, .unset, .unset, .unset, .unset] [(.ref a), (.int (0 : Int32)), (.ref (ck n))])) (fun _ kk => XS.aloadN X100.here hx rfl (hb hby down_bf_47) rfl rfl kk) ?_
    obtain ⟨T103, X104, e105, st106⟩ := getF X100 hx hZ hown (host := "") (Or.inl (own_w hw 32 rfl)) Via.refl e101 (O).2.2.2.2.2.2.1 (g := (mkF m 48 #[.val (.ref a), .val (.long (0 : Int64)), .second, .unset, .unset, .unset, .unset, .unset, .unset, .unset] [(.ref a), (.int (0 : Int32)), (.ref (ck n))])) rfl rfl (hb hby down_bf_48)
    refine own_st st106 ?_
    show own_Out _ _ _ _ (T103.setTop (mkF m 51 #[.val (.ref a), .val (.long (0 : Int64)), .second, .unset, .unset, .unset, .unset, .unset, .unset, .unset] [(.int (Int32.ofNat (ln n))), (.int (0 : Int32)), (.ref (ck n))]))
    refine own_callS X104 hx hZ (y := (⟨"java/util/Arrays", "copyOfRange", "([BII)[B"⟩ : MethodName)) (as' := [(.ref (ck n)), (.int (0 : Int32)), (.int (Int32.ofNat (ln n)))]) hown (own_w hw 66 rfl) (own_w hw 67 rfl) (own_w hw 68 rfl) (own_w hw 69 rfl) (by decide) (own_cor l Z a0 hw [] (ck n) (ln n) (cap n) (ct n) h0 n0 (Fc n (Nat.le_refl n)) (P9 n (Nat.le_refl n)) (P10 n (Nat.le_refl n)) g0) 0 (by decide) (by decide) (by decide) (by decide) (rest := []) (by rw [hml]; rfl) (lenOf (by decide : parseMethodDescriptor "([BII)[B" = some ⟨[.array (.byte), .int, .int], some (.array (.byte))⟩) rfl) rfl (Nat.le_of_eq rfl) (hb hby down_bf_51) e105 ?_
    intro T113 L114 v116 X115 hQ
    obtain ⟨o109, rfl, N108', E110, g111, F112⟩ := hQ
    show own_Out _ _ _ _ (T113.setTop (mkF m 54 #[.val (.ref a), .val (.long (0 : Int64)), .second, .unset, .unset, .unset, .unset, .unset, .unset, .unset] [(.ref o109)]))
    have N108 := Fr.app N2 N108'
    refine own_retA X115 hx hret rfl rfl hlk (hb hby down_bf_54) (by decide) (by decide) ?_
    have hln : ln n = tt := by omega
    exact ⟨_, rfl, N108, E110, g111, hln ▸ own_AB_congr F112 (own_first hs0 ht hF)⟩
theorem pn_own_tba : plainFor (⟨"com/example/kennel/kennel/Utf8Builder", "toByteArray", "()[B"⟩ : MethodName) = true := by first | exact plainFor_of_name (by first | (simp [plainName, overriddenIn]; done) | decide +kernel) | decide +kernel
theorem down_tba_0 : decode prog_48_method_4_code 0 = .ok (.aload_n 0, 1) := by decide +kernel
theorem down_tba_1 : decode prog_48_method_4_code 1 = .ok (.lconst 0, 1) := by decide +kernel
theorem down_tba_2 : decode prog_48_method_4_code 2 = .ok (.invokevirtual 39, 3) := by decide +kernel
theorem down_tba_5 : decode prog_48_method_4_code 5 = .ok (.areturn, 1) := by decide +kernel
def Q_own_tba (Z : State)  (a mm tt rr : Nat) (F : Nat → Int32) (h0 : Heap) (n0 : Nat) (v : Option Value) (h : Heap) (L : List Loc) : Prop := ∃ o : Nat, v = some (.ref o) ∧ Fr n0 L ∧ Ext h0 h ∧ h0.size ≤ o ∧ own_AB Z h o tt F
set_option maxRecDepth 65536 in
set_option maxHeartbeats 40000000 in
theorem own_tba (l : Launch) (Z : State) (a0 : Array Value) (hw : ∀ d ∈ tables_1, d.before a0 Z = true) (ws : List Jvm.Cond)  (a mm tt rr : Nat) (F : Nat → Int32) (h0 : Heap) (n0 : Nat) (V0 : own_V Z h0 a n0 mm tt F rr) (hmm : mm ≤ 4) (htt : tt ≤ 1534) :
    MetFree l (⟨"com/example/kennel/kennel/Utf8Builder", "toByteArray", "()[B"⟩ : MethodName) (head1 (Jvm.Cond.code (⟨"com/example/kennel/kennel/Utf8Builder", "toByteArray", "()[B"⟩ : MethodName) prog_48_method_4_code 1 (some (.array (.byte))) :: ws) ({ frames := 4, cells := 1, slots := 1534, locals := 75 } : Room)) (fun aa U => aa = #[(.ref a)] ∧ Z.Warmed39 U.vm ∧ U.heap = h0) (fun _ _ _ _ _ => True) (fun _ U o U' => ∃ v L, o = .returned v ∧ Q_own_tba Z a mm tt rr F h0 n0 v U'.heap L ∧ FrameEnd U o U' L ({ frames := 4, cells := 1, slots := 1534, locals := 75 } : Room).cells ({ frames := 4, cells := 1, slots := 1534, locals := 75 } : Room).slots) := by
  refine own_body (x := (⟨"com/example/kennel/kennel/Utf8Builder", "toByteArray", "()[B"⟩ : MethodName)) (maxL := 1) (as' := #[(.ref a)]) (Q := Q_own_tba Z a mm tt rr F h0 n0) pn_own_tba #[.val (.ref a)] (fun m => by first | (simp [entryFrame, mkF, argsToLocals, Value.category]; done) | rfl) ?_
  intro p e s m below meth c T0 X0 hx hby hml hret hlk hown hnm hZ e0
  replace hml : c.maxLocals = 1 := hml
  replace hown : s.vm.findClass "com/example/kennel/kennel/Utf8Builder" = some m.cls := hown
  have N0 := Fr.nil n0
  have EX0 : Exa Z h0 a "com/example/kennel/kennel/Utf8Builder" := by obtain ⟨n, ck, cap, ln, ct, ea, la, fe, fl, ⟨O, -⟩, -⟩ := V0; exact O.1
  refine own_st (G := T0.setTop (mkF m 1 #[.val (.ref a)] [(.ref a)])) (fun _ kk => XS.aloadN X0.here hx rfl (hb hby down_tba_0) rfl rfl kk) ?_
  refine own_st (G := T0.setTop (mkF m 2 #[.val (.ref a)] [(.long (0 : Int64)), (.ref a)])) (fun _ kk => XT.lconstV X0.here hx rfl (0 : Int64) (hb hby down_tba_1) (by decide) kk) ?_
  refine own_callV X0 hx hZ (y := (⟨"com/example/kennel/kennel/Utf8Builder", "bytesFrom", "(J)[B"⟩ : MethodName)) (b := a) (as' := [(.long (0 : Int64))]) hown (own_w hw 60 rfl) (own_w hw 61 rfl) (own_w hw 63 rfl) (own_w hw 62 rfl) (own_w hw 64 rfl) (own_w hw 4 rfl) (by decide) (own_bf l Z a0 hw [] a mm tt rr F h0 n0 V0 hmm htt) EX0 0 (by decide) (by decide) (by decide) (by decide) (rest := []) (by rw [hml]; rfl) (lenOf (by decide : parseMethodDescriptor "(J)[B" = some ⟨[.long], some (.array (.byte))⟩) rfl) rfl (Nat.le_of_eq rfl) (hb hby down_tba_2) e0 ?_
  intro T6 L7 v9 X8 hQ
  obtain ⟨o1, rfl, N2', E3, g4, F5⟩ := hQ
  show own_Out _ _ _ _ (T6.setTop (mkF m 5 #[.val (.ref a)] [(.ref o1)]))
  have N2 := Fr.app N0 N2'
  refine own_retA X8 hx hret rfl rfl hlk (hb hby down_tba_5) (by decide) (by decide) ?_
  exact ⟨_, rfl, N2, E3, g4, F5⟩
theorem pn_own_expd : plainFor (⟨"com/example/kennel/kennel/Utf8BuilderTruncatePinLaw", "expected", "([BIII)B"⟩ : MethodName) = true := by first | exact plainFor_of_name (by first | (simp [plainName, overriddenIn]; done) | decide +kernel) | decide +kernel
theorem down_expd_0 : decode method_3_code 0 = .ok (.iload_n 3, 1) := by decide +kernel
theorem down_expd_1 : decode method_3_code 1 = .ok (.iload_n 1, 1) := by decide +kernel
theorem down_expd_2 : decode method_3_code 2 = .ok (.if_icmp .ge 7, 3) := by decide +kernel
theorem down_expd_5 : decode method_3_code 5 = .ok (.aload_n 0, 1) := by decide +kernel
theorem down_expd_6 : decode method_3_code 6 = .ok (.iload_n 3, 1) := by decide +kernel
theorem down_expd_7 : decode method_3_code 7 = .ok (.baload, 1) := by decide +kernel
theorem down_expd_8 : decode method_3_code 8 = .ok (.ireturn, 1) := by decide +kernel
theorem down_expd_9 : decode method_3_code 9 = .ok (.iload_n 3, 1) := by decide +kernel
theorem down_expd_10 : decode method_3_code 10 = .ok (.iload_n 1, 1) := by decide +kernel
theorem down_expd_11 : decode method_3_code 11 = .ok (.iload_n 2, 1) := by decide +kernel
theorem down_expd_12 : decode method_3_code 12 = .ok (.iadd, 1) := by decide +kernel
theorem down_expd_13 : decode method_3_code 13 = .ok (.if_icmp .ge 9, 3) := by decide +kernel
theorem down_expd_16 : decode method_3_code 16 = .ok (.aload_n 0, 1) := by decide +kernel
theorem down_expd_17 : decode method_3_code 17 = .ok (.iload_n 3, 1) := by decide +kernel
theorem down_expd_18 : decode method_3_code 18 = .ok (.iload_n 1, 1) := by decide +kernel
theorem down_expd_19 : decode method_3_code 19 = .ok (.isub, 1) := by decide +kernel
theorem down_expd_20 : decode method_3_code 20 = .ok (.baload, 1) := by decide +kernel
theorem down_expd_21 : decode method_3_code 21 = .ok (.ireturn, 1) := by decide +kernel
theorem down_expd_22 : decode method_3_code 22 = .ok (.aload_n 0, 1) := by decide +kernel
theorem down_expd_23 : decode method_3_code 23 = .ok (.iload_n 3, 1) := by decide +kernel
theorem down_expd_24 : decode method_3_code 24 = .ok (.iload_n 1, 1) := by decide +kernel
theorem down_expd_25 : decode method_3_code 25 = .ok (.isub, 1) := by decide +kernel
theorem down_expd_26 : decode method_3_code 26 = .ok (.iload_n 2, 1) := by decide +kernel
theorem down_expd_27 : decode method_3_code 27 = .ok (.isub, 1) := by decide +kernel
theorem down_expd_28 : decode method_3_code 28 = .ok (.baload, 1) := by decide +kernel
theorem down_expd_29 : decode method_3_code 29 = .ok (.ireturn, 1) := by decide +kernel
def Q_own_expd (Z : State)  (b na nc nd i : Nat) (fr : Nat → Int32) (h0 : Heap) (n0 : Nat) (v : Option Value) (h : Heap) (L : List Loc) : Prop := v = some (.int (fr (own_exp na nc i))) ∧ L = [] ∧ h = h0
set_option maxRecDepth 65536 in
set_option maxHeartbeats 40000000 in
theorem own_expd (l : Launch) (Z : State) (a0 : Array Value) (hw : ∀ d ∈ tables_1, d.before a0 Z = true) (ws : List Jvm.Cond)  (b na nc nd i : Nat) (fr : Nat → Int32) (h0 : Heap) (n0 : Nat) (Fb : own_AB Z h0 b 512 fr) (hna : na ≤ 511) (hnc : nc ≤ 511) (hnd : nd ≤ 511) (hi : i < na + nc + nd) :
    MetFree l (⟨"com/example/kennel/kennel/Utf8BuilderTruncatePinLaw", "expected", "([BIII)B"⟩ : MethodName) (head1 (Jvm.Cond.code (⟨"com/example/kennel/kennel/Utf8BuilderTruncatePinLaw", "expected", "([BIII)B"⟩ : MethodName) method_3_code 4 (some (.byte)) :: ws) ({ frames := 0, cells := 0, slots := 0, locals := 0 } : Room)) (fun aa U => aa = #[(.ref b), (.int (Int32.ofNat na)), (.int (Int32.ofNat nc)), (.int (Int32.ofNat i))] ∧ Z.Warmed39 U.vm ∧ U.heap = h0) (fun _ _ _ _ _ => True) (fun _ U o U' => ∃ v L, o = .returned v ∧ Q_own_expd Z b na nc nd i fr h0 n0 v U'.heap L ∧ FrameEnd U o U' L ({ frames := 0, cells := 0, slots := 0, locals := 0 } : Room).cells ({ frames := 0, cells := 0, slots := 0, locals := 0 } : Room).slots) := by
  refine own_body (x := (⟨"com/example/kennel/kennel/Utf8BuilderTruncatePinLaw", "expected", "([BIII)B"⟩ : MethodName)) (maxL := 4) (as' := #[(.ref b), (.int (Int32.ofNat na)), (.int (Int32.ofNat nc)), (.int (Int32.ofNat i))]) (Q := Q_own_expd Z b na nc nd i fr h0 n0) pn_own_expd #[.val (.ref b), .val (.int (Int32.ofNat na)), .val (.int (Int32.ofNat nc)), .val (.int (Int32.ofNat i))] (fun m => by first | (simp [entryFrame, mkF, argsToLocals, Value.category]; done) | rfl) ?_
  intro p e s m below meth c T0 X0 hx hby hml hret hlk hown hnm hZ e0
  replace hml : c.maxLocals = 4 := hml
  replace hown : s.vm.findClass "com/example/kennel/kennel/Utf8BuilderTruncatePinLaw" = some m.cls := hown
  have N0 := Fr.nil n0
  refine own_st (G := T0.setTop (mkF m 1 #[.val (.ref b), .val (.int (Int32.ofNat na)), .val (.int (Int32.ofNat nc)), .val (.int (Int32.ofNat i))] [(.int (Int32.ofNat i))])) (fun _ kk => XS.iloadN X0.here hx rfl (hb hby down_expd_0) rfl kk) ?_
  refine own_st (G := T0.setTop (mkF m 2 #[.val (.ref b), .val (.int (Int32.ofNat na)), .val (.int (Int32.ofNat nc)), .val (.int (Int32.ofNat i))] [(.int (Int32.ofNat na)), (.int (Int32.ofNat i))])) (fun _ kk => XS.iloadN X0.here hx rfl (hb hby down_expd_1) rfl kk) ?_
  by_cases hc1 : (Int32.ofNat i) < (Int32.ofNat na)
  · skip
    refine own_st (G := T0.setTop (mkF m 5 #[.val (.ref b), .val (.int (Int32.ofNat na)), .val (.int (Int32.ofNat nc)), .val (.int (Int32.ofNat i))] [])) (fun _ kk => XS.icmpNo X0.here hx rfl (hb hby down_expd_2) rfl (XT.ii_ge_f hc1) kk) ?_
    refine own_st (G := T0.setTop (mkF m 6 #[.val (.ref b), .val (.int (Int32.ofNat na)), .val (.int (Int32.ofNat nc)), .val (.int (Int32.ofNat i))] [(.ref b)])) (fun _ kk => XS.aloadN X0.here hx rfl (hb hby down_expd_5) rfl rfl kk) ?_
    refine own_st (G := T0.setTop (mkF m 7 #[.val (.ref b), .val (.int (Int32.ofNat na)), .val (.int (Int32.ofNat nc)), .val (.int (Int32.ofNat i))] [(.int (Int32.ofNat i)), (.ref b)])) (fun _ kk => XS.iloadN X0.here hx rfl (hb hby down_expd_6) rfl kk) ?_
    have r0 := (own_ltI (x := i) (y := na) (by omega) (by omega)).mp hc1
    refine own_baload X0 hx hZ e0 Fb (j := (Int32.ofNat i)) (i := i) (own_ixn (n := i) (by omega)).1 (own_ixn (n := i) (by omega)).2 (by omega) (hb hby down_expd_7) ?_
    show own_Out _ _ _ _ (T0.setTop (mkF m 8 #[.val (.ref b), .val (.int (Int32.ofNat na)), .val (.int (Int32.ofNat nc)), .val (.int (Int32.ofNat i))] [(.int (fr i))]))
    refine own_retB X0 hx hret (by simp) hlk (hb hby down_expd_8) (by decide) (by decide) ?_
    have q1 := (own_ltI (x := i) (y := na) (by omega) (by omega)).mp hc1
    exact ⟨by rw [own_AB_fits Fb (i := i) (by omega), show own_exp na nc i = i from by unfold own_exp; rw [if_pos q1]], rfl, e0⟩
  · skip
    refine own_st (G := T0.setTop (mkF m 9 #[.val (.ref b), .val (.int (Int32.ofNat na)), .val (.int (Int32.ofNat nc)), .val (.int (Int32.ofNat i))] [])) (fun _ kk => XS.icmpYes X0.here hx rfl (pc0 := 2) (pc' := 9) rfl (hb hby down_expd_2) rfl (XT.ii_ge_t hc1) (by decide) (by decide) kk) ?_
    refine own_st (G := T0.setTop (mkF m 10 #[.val (.ref b), .val (.int (Int32.ofNat na)), .val (.int (Int32.ofNat nc)), .val (.int (Int32.ofNat i))] [(.int (Int32.ofNat i))])) (fun _ kk => XS.iloadN X0.here hx rfl (hb hby down_expd_9) rfl kk) ?_
    refine own_st (G := T0.setTop (mkF m 11 #[.val (.ref b), .val (.int (Int32.ofNat na)), .val (.int (Int32.ofNat nc)), .val (.int (Int32.ofNat i))] [(.int (Int32.ofNat na)), (.int (Int32.ofNat i))])) (fun _ kk => XS.iloadN X0.here hx rfl (hb hby down_expd_10) rfl kk) ?_
    refine own_st (G := T0.setTop (mkF m 12 #[.val (.ref b), .val (.int (Int32.ofNat na)), .val (.int (Int32.ofNat nc)), .val (.int (Int32.ofNat i))] [(.int (Int32.ofNat nc)), (.int (Int32.ofNat na)), (.int (Int32.ofNat i))])) (fun _ kk => XS.iloadN X0.here hx rfl (hb hby down_expd_11) rfl kk) ?_
    refine own_st (G := T0.setTop (mkF m 13 #[.val (.ref b), .val (.int (Int32.ofNat na)), .val (.int (Int32.ofNat nc)), .val (.int (Int32.ofNat i))] [(.int ((Int32.ofNat na) + (Int32.ofNat nc))), (.int (Int32.ofNat i))])) (fun _ kk => XS.iadd X0.here hx rfl (hb hby down_expd_12) rfl kk) ?_
    rw [show ((Int32.ofNat na) + (Int32.ofNat nc)) = (Int32.ofNat (na + nc)) from own_addI (by omega)]
    by_cases hc2 : (Int32.ofNat i) < (Int32.ofNat (na + nc))
    · skip
      refine own_st (G := T0.setTop (mkF m 16 #[.val (.ref b), .val (.int (Int32.ofNat na)), .val (.int (Int32.ofNat nc)), .val (.int (Int32.ofNat i))] [])) (fun _ kk => XS.icmpNo X0.here hx rfl (hb hby down_expd_13) rfl (XT.ii_ge_f hc2) kk) ?_
      refine own_st (G := T0.setTop (mkF m 17 #[.val (.ref b), .val (.int (Int32.ofNat na)), .val (.int (Int32.ofNat nc)), .val (.int (Int32.ofNat i))] [(.ref b)])) (fun _ kk => XS.aloadN X0.here hx rfl (hb hby down_expd_16) rfl rfl kk) ?_
      refine own_st (G := T0.setTop (mkF m 18 #[.val (.ref b), .val (.int (Int32.ofNat na)), .val (.int (Int32.ofNat nc)), .val (.int (Int32.ofNat i))] [(.int (Int32.ofNat i)), (.ref b)])) (fun _ kk => XS.iloadN X0.here hx rfl (hb hby down_expd_17) rfl kk) ?_
      refine own_st (G := T0.setTop (mkF m 19 #[.val (.ref b), .val (.int (Int32.ofNat na)), .val (.int (Int32.ofNat nc)), .val (.int (Int32.ofNat i))] [(.int (Int32.ofNat na)), (.int (Int32.ofNat i)), (.ref b)])) (fun _ kk => XS.iloadN X0.here hx rfl (hb hby down_expd_18) rfl kk) ?_
      refine own_st (G := T0.setTop (mkF m 20 #[.val (.ref b), .val (.int (Int32.ofNat na)), .val (.int (Int32.ofNat nc)), .val (.int (Int32.ofNat i))] [(.int ((Int32.ofNat i) - (Int32.ofNat na))), (.ref b)])) (fun _ kk => XS.isub X0.here hx rfl (hb hby down_expd_19) rfl kk) ?_
      have r1 : ¬ i < na := fun z => hc1 ((own_ltI (by omega) (by omega)).mpr z)
      have r2 := (own_ltI (x := i) (y := na + nc) (by omega) (by omega)).mp hc2
      rw [show ((Int32.ofNat i) - (Int32.ofNat na)) = (Int32.ofNat (i - na)) from own_subI (by omega) (by omega)]
      refine own_baload X0 hx hZ e0 Fb (j := (Int32.ofNat (i - na))) (i := (i - na)) (own_ixn (n := (i - na)) (by omega)).1 (own_ixn (n := (i - na)) (by omega)).2 (by omega) (hb hby down_expd_20) ?_
      show own_Out _ _ _ _ (T0.setTop (mkF m 21 #[.val (.ref b), .val (.int (Int32.ofNat na)), .val (.int (Int32.ofNat nc)), .val (.int (Int32.ofNat i))] [(.int (fr (i - na)))]))
      refine own_retB X0 hx hret (by simp) hlk (hb hby down_expd_21) (by decide) (by decide) ?_
      have q1 := fun z => hc1 ((own_ltI (x := i) (y := na) (by omega) (by omega)).mpr z)
      have q2 := (own_ltI (x := i) (y := na + nc) (by omega) (by omega)).mp hc2
      exact ⟨by rw [own_AB_fits Fb (i := (i - na)) (by omega), show own_exp na nc i = (i - na) from by unfold own_exp; rw [if_neg q1, if_pos q2]], rfl, e0⟩
    · skip
      refine own_st (G := T0.setTop (mkF m 22 #[.val (.ref b), .val (.int (Int32.ofNat na)), .val (.int (Int32.ofNat nc)), .val (.int (Int32.ofNat i))] [])) (fun _ kk => XS.icmpYes X0.here hx rfl (pc0 := 13) (pc' := 22) rfl (hb hby down_expd_13) rfl (XT.ii_ge_t hc2) (by decide) (by decide) kk) ?_
      refine own_st (G := T0.setTop (mkF m 23 #[.val (.ref b), .val (.int (Int32.ofNat na)), .val (.int (Int32.ofNat nc)), .val (.int (Int32.ofNat i))] [(.ref b)])) (fun _ kk => XS.aloadN X0.here hx rfl (hb hby down_expd_22) rfl rfl kk) ?_
      refine own_st (G := T0.setTop (mkF m 24 #[.val (.ref b), .val (.int (Int32.ofNat na)), .val (.int (Int32.ofNat nc)), .val (.int (Int32.ofNat i))] [(.int (Int32.ofNat i)), (.ref b)])) (fun _ kk => XS.iloadN X0.here hx rfl (hb hby down_expd_23) rfl kk) ?_
      refine own_st (G := T0.setTop (mkF m 25 #[.val (.ref b), .val (.int (Int32.ofNat na)), .val (.int (Int32.ofNat nc)), .val (.int (Int32.ofNat i))] [(.int (Int32.ofNat na)), (.int (Int32.ofNat i)), (.ref b)])) (fun _ kk => XS.iloadN X0.here hx rfl (hb hby down_expd_24) rfl kk) ?_
      refine own_st (G := T0.setTop (mkF m 26 #[.val (.ref b), .val (.int (Int32.ofNat na)), .val (.int (Int32.ofNat nc)), .val (.int (Int32.ofNat i))] [(.int ((Int32.ofNat i) - (Int32.ofNat na))), (.ref b)])) (fun _ kk => XS.isub X0.here hx rfl (hb hby down_expd_25) rfl kk) ?_
      have r1 : ¬ i < na := fun z => hc1 ((own_ltI (by omega) (by omega)).mpr z)
      have r2 : ¬ i < na + nc := fun z => hc2 ((own_ltI (by omega) (by omega)).mpr z)
      rw [show ((Int32.ofNat i) - (Int32.ofNat na)) = (Int32.ofNat (i - na)) from own_subI (by omega) (by omega)]
      refine own_st (G := T0.setTop (mkF m 27 #[.val (.ref b), .val (.int (Int32.ofNat na)), .val (.int (Int32.ofNat nc)), .val (.int (Int32.ofNat i))] [(.int (Int32.ofNat nc)), (.int (Int32.ofNat (i - na))), (.ref b)])) (fun _ kk => XS.iloadN X0.here hx rfl (hb hby down_expd_26) rfl kk) ?_
      refine own_st (G := T0.setTop (mkF m 28 #[.val (.ref b), .val (.int (Int32.ofNat na)), .val (.int (Int32.ofNat nc)), .val (.int (Int32.ofNat i))] [(.int ((Int32.ofNat (i - na)) - (Int32.ofNat nc))), (.ref b)])) (fun _ kk => XS.isub X0.here hx rfl (hb hby down_expd_27) rfl kk) ?_
      rw [show ((Int32.ofNat (i - na)) - (Int32.ofNat nc)) = (Int32.ofNat (i - na - nc)) from own_subI (by omega) (by omega)]
      refine own_baload X0 hx hZ e0 Fb (j := (Int32.ofNat (i - na - nc))) (i := (i - na - nc)) (own_ixn (n := (i - na - nc)) (by omega)).1 (own_ixn (n := (i - na - nc)) (by omega)).2 (by omega) (hb hby down_expd_28) ?_
      show own_Out _ _ _ _ (T0.setTop (mkF m 29 #[.val (.ref b), .val (.int (Int32.ofNat na)), .val (.int (Int32.ofNat nc)), .val (.int (Int32.ofNat i))] [(.int (fr (i - na - nc)))]))
      refine own_retB X0 hx hret (by simp) hlk (hb hby down_expd_29) (by decide) (by decide) ?_
      have q1 := fun z => hc1 ((own_ltI (x := i) (y := na) (by omega) (by omega)).mpr z)
      have q2 := fun z => hc2 ((own_ltI (x := i) (y := na + nc) (by omega) (by omega)).mpr z)
      exact ⟨by rw [own_AB_fits Fb (i := (i - na - nc)) (by omega), show own_exp na nc i = (i - na - nc) from by unfold own_exp; rw [if_neg q1, if_neg q2]], rfl, e0⟩
theorem pn_own_law : plainFor x = true := by first | exact plainFor_of_name (by first | (simp [plainName, overriddenIn]; done) | decide +kernel) | decide +kernel
def Q_own_law (Z : State) (p0 : Int32) (p1 : Int64) (p2 : Int32) (p3 : Int32) (p4 : Int32) (p5 : Int32)  (h0 : Heap) (n0 : Nat) (v : Option Value) (h : Heap) (L : List Loc) : Prop := v = some (.int 1) ∧ Fr n0 L
set_option maxRecDepth 65536 in
set_option maxHeartbeats 40000000 in
theorem own_law (l : Launch) (Z : State) (a0 : Array Value) (hw : ∀ d ∈ tables_1, d.before a0 Z = true) (ws : List Jvm.Cond) (p0 : Int32) (p1 : Int64) (p2 : Int32) (p3 : Int32) (p4 : Int32) (p5 : Int32)  (h0 : Heap) (n0 : Nat) (Z0 : n0 ≤ h0.size) :
    MetFree l x (head1 (Jvm.Cond.code x code maxLocals ret :: ws) room_1) (fun aa U => aa = #[(.int p0), (.long p1), (.int p2), (.int p3), (.int p4), (.int p5)] ∧ Z.Warmed39 U.vm ∧ U.heap = h0) (fun _ _ _ _ _ => True) (fun _ U o U' => ∃ v L, o = .returned v ∧ Q_own_law Z p0 p1 p2 p3 p4 p5 h0 n0 v U'.heap L ∧ FrameEnd U o U' L room_1.cells room_1.slots) := by
  refine own_body (x := x) (maxL := maxLocals) (as' := #[(.int p0), (.long p1), (.int p2), (.int p3), (.int p4), (.int p5)]) (Q := Q_own_law Z p0 p1 p2 p3 p4 p5 h0 n0) pn_own_law #[.val (.int p0), .val (.long p1), .second, .val (.int p2), .val (.int p3), .val (.int p4), .val (.int p5), .unset, .unset, .unset, .unset, .unset, .unset, .unset, .unset, .unset, .unset, .unset, .unset, .unset] (fun m => by first | (simp [entryFrame, mkF, argsToLocals, Value.category, maxLocals]; done) | rfl) ?_
  intro p e s m below meth c T0 X0 hx hby hml hret hlk hown hnm hZ e0
  replace hml : c.maxLocals = 20 := hml
  replace hown : s.vm.findClass "com/example/kennel/kennel/Utf8BuilderTruncatePinLaw" = some m.cls := hown
  have N0 := Fr.nil n0
  refine own_st (G := T0.setTop (mkF m 1 #[.val (.int p0), .val (.long p1), .second, .val (.int p2), .val (.int p3), .val (.int p4), .val (.int p5), .unset, .unset, .unset, .unset, .unset, .unset, .unset, .unset, .unset, .unset, .unset, .unset, .unset] [(.int p0)])) (fun _ kk => XS.iloadN X0.here hx rfl (hb hby at_0) rfl kk) ?_
  refine own_st (G := T0.setTop (mkF m 4 #[.val (.int p0), .val (.long p1), .second, .val (.int p2), .val (.int p3), .val (.int p4), .val (.int p5), .unset, .unset, .unset, .unset, .unset, .unset, .unset, .unset, .unset, .unset, .unset, .unset, .unset] [(.int (511 : Int32)), (.int p0)])) (fun _ kk => XT.sipushV X0.here hx rfl (511 : Int32) (hb hby at_1) (by decide) kk) ?_
  refine own_st (G := T0.setTop (mkF m 5 #[.val (.int p0), .val (.long p1), .second, .val (.int p2), .val (.int p3), .val (.int p4), .val (.int p5), .unset, .unset, .unset, .unset, .unset, .unset, .unset, .unset, .unset, .unset, .unset, .unset, .unset] [(.int (p0 &&& (511 : Int32)))])) (fun _ kk => XS.iand X0.here hx rfl (hb hby at_4) rfl kk) ?_
  obtain ⟨na, hna, eq_na⟩ := own_and511 p0
  rw [eq_na]
  refine own_st (G := T0.setTop (mkF m 7 #[.val (.int p0), .val (.long p1), .second, .val (.int p2), .val (.int p3), .val (.int p4), .val (.int p5), .val (.int (Int32.ofNat na)), .unset, .unset, .unset, .unset, .unset, .unset, .unset, .unset, .unset, .unset, .unset, .unset] [])) (fun _ kk => XS.istore X0.here hx rfl (hb hby at_5) rfl (l' := #[.val (.int p0), .val (.long p1), .second, .val (.int p2), .val (.int p3), .val (.int p4), .val (.int p5), .val (.int (Int32.ofNat na)), .unset, .unset, .unset, .unset, .unset, .unset, .unset, .unset, .unset, .unset, .unset, .unset]) rfl kk) ?_
  refine own_st (G := T0.setTop (mkF m 8 #[.val (.int p0), .val (.long p1), .second, .val (.int p2), .val (.int p3), .val (.int p4), .val (.int p5), .val (.int (Int32.ofNat na)), .unset, .unset, .unset, .unset, .unset, .unset, .unset, .unset, .unset, .unset, .unset, .unset] [(.int p0)])) (fun _ kk => XS.iloadN X0.here hx rfl (hb hby at_7) rfl kk) ?_
  refine own_st (G := T0.setTop (mkF m 10 #[.val (.int p0), .val (.long p1), .second, .val (.int p2), .val (.int p3), .val (.int p4), .val (.int p5), .val (.int (Int32.ofNat na)), .unset, .unset, .unset, .unset, .unset, .unset, .unset, .unset, .unset, .unset, .unset, .unset] [(.int (9 : Int32)), (.int p0)])) (fun _ kk => XT.bipushV X0.here hx rfl (9 : Int32) (hb hby at_8) (by decide) kk) ?_
  refine own_st (G := T0.setTop (mkF m 11 #[.val (.int p0), .val (.long p1), .second, .val (.int p2), .val (.int p3), .val (.int p4), .val (.int p5), .val (.int (Int32.ofNat na)), .unset, .unset, .unset, .unset, .unset, .unset, .unset, .unset, .unset, .unset, .unset, .unset] [(.int (XT.ushr p0 (9 : Int32)))])) (fun _ kk => XT.iushr X0.here hx rfl (hb hby at_10) rfl kk) ?_
  refine own_st (G := T0.setTop (mkF m 14 #[.val (.int p0), .val (.long p1), .second, .val (.int p2), .val (.int p3), .val (.int p4), .val (.int p5), .val (.int (Int32.ofNat na)), .unset, .unset, .unset, .unset, .unset, .unset, .unset, .unset, .unset, .unset, .unset, .unset] [(.int (511 : Int32)), (.int (XT.ushr p0 (9 : Int32)))])) (fun _ kk => XT.sipushV X0.here hx rfl (511 : Int32) (hb hby at_11) (by decide) kk) ?_
  refine own_st (G := T0.setTop (mkF m 15 #[.val (.int p0), .val (.long p1), .second, .val (.int p2), .val (.int p3), .val (.int p4), .val (.int p5), .val (.int (Int32.ofNat na)), .unset, .unset, .unset, .unset, .unset, .unset, .unset, .unset, .unset, .unset, .unset, .unset] [(.int ((XT.ushr p0 (9 : Int32)) &&& (511 : Int32)))])) (fun _ kk => XS.iand X0.here hx rfl (hb hby at_14) rfl kk) ?_
  obtain ⟨nc, hnc, eq_nc⟩ := own_and511 (XT.ushr p0 (9 : Int32))
  rw [eq_nc]
  refine own_st (G := T0.setTop (mkF m 17 #[.val (.int p0), .val (.long p1), .second, .val (.int p2), .val (.int p3), .val (.int p4), .val (.int p5), .val (.int (Int32.ofNat na)), .val (.int (Int32.ofNat nc)), .unset, .unset, .unset, .unset, .unset, .unset, .unset, .unset, .unset, .unset, .unset] [])) (fun _ kk => XS.istore X0.here hx rfl (hb hby at_15) rfl (l' := #[.val (.int p0), .val (.long p1), .second, .val (.int p2), .val (.int p3), .val (.int p4), .val (.int p5), .val (.int (Int32.ofNat na)), .val (.int (Int32.ofNat nc)), .unset, .unset, .unset, .unset, .unset, .unset, .unset, .unset, .unset, .unset, .unset]) rfl kk) ?_
  refine own_st (G := T0.setTop (mkF m 18 #[.val (.int p0), .val (.long p1), .second, .val (.int p2), .val (.int p3), .val (.int p4), .val (.int p5), .val (.int (Int32.ofNat na)), .val (.int (Int32.ofNat nc)), .unset, .unset, .unset, .unset, .unset, .unset, .unset, .unset, .unset, .unset, .unset] [(.int p0)])) (fun _ kk => XS.iloadN X0.here hx rfl (hb hby at_17) rfl kk) ?_
  refine own_st (G := T0.setTop (mkF m 20 #[.val (.int p0), .val (.long p1), .second, .val (.int p2), .val (.int p3), .val (.int p4), .val (.int p5), .val (.int (Int32.ofNat na)), .val (.int (Int32.ofNat nc)), .unset, .unset, .unset, .unset, .unset, .unset, .unset, .unset, .unset, .unset, .unset] [(.int (18 : Int32)), (.int p0)])) (fun _ kk => XT.bipushV X0.here hx rfl (18 : Int32) (hb hby at_18) (by decide) kk) ?_
  refine own_st (G := T0.setTop (mkF m 21 #[.val (.int p0), .val (.long p1), .second, .val (.int p2), .val (.int p3), .val (.int p4), .val (.int p5), .val (.int (Int32.ofNat na)), .val (.int (Int32.ofNat nc)), .unset, .unset, .unset, .unset, .unset, .unset, .unset, .unset, .unset, .unset, .unset] [(.int (XT.ushr p0 (18 : Int32)))])) (fun _ kk => XT.iushr X0.here hx rfl (hb hby at_20) rfl kk) ?_
  refine own_st (G := T0.setTop (mkF m 24 #[.val (.int p0), .val (.long p1), .second, .val (.int p2), .val (.int p3), .val (.int p4), .val (.int p5), .val (.int (Int32.ofNat na)), .val (.int (Int32.ofNat nc)), .unset, .unset, .unset, .unset, .unset, .unset, .unset, .unset, .unset, .unset, .unset] [(.int (511 : Int32)), (.int (XT.ushr p0 (18 : Int32)))])) (fun _ kk => XT.sipushV X0.here hx rfl (511 : Int32) (hb hby at_21) (by decide) kk) ?_
  refine own_st (G := T0.setTop (mkF m 25 #[.val (.int p0), .val (.long p1), .second, .val (.int p2), .val (.int p3), .val (.int p4), .val (.int p5), .val (.int (Int32.ofNat na)), .val (.int (Int32.ofNat nc)), .unset, .unset, .unset, .unset, .unset, .unset, .unset, .unset, .unset, .unset, .unset] [(.int ((XT.ushr p0 (18 : Int32)) &&& (511 : Int32)))])) (fun _ kk => XS.iand X0.here hx rfl (hb hby at_24) rfl kk) ?_
  obtain ⟨nd, hnd, eq_nd⟩ := own_and511 (XT.ushr p0 (18 : Int32))
  rw [eq_nd]
  refine own_st (G := T0.setTop (mkF m 27 #[.val (.int p0), .val (.long p1), .second, .val (.int p2), .val (.int p3), .val (.int p4), .val (.int p5), .val (.int (Int32.ofNat na)), .val (.int (Int32.ofNat nc)), .val (.int (Int32.ofNat nd)), .unset, .unset, .unset, .unset, .unset, .unset, .unset, .unset, .unset, .unset] [])) (fun _ kk => XS.istore X0.here hx rfl (hb hby at_25) rfl (l' := #[.val (.int p0), .val (.long p1), .second, .val (.int p2), .val (.int p3), .val (.int p4), .val (.int p5), .val (.int (Int32.ofNat na)), .val (.int (Int32.ofNat nc)), .val (.int (Int32.ofNat nd)), .unset, .unset, .unset, .unset, .unset, .unset, .unset, .unset, .unset, .unset]) rfl kk) ?_
  refine own_st (G := T0.setTop (mkF m 30 #[.val (.int p0), .val (.long p1), .second, .val (.int p2), .val (.int p3), .val (.int p4), .val (.int p5), .val (.int (Int32.ofNat na)), .val (.int (Int32.ofNat nc)), .val (.int (Int32.ofNat nd)), .unset, .unset, .unset, .unset, .unset, .unset, .unset, .unset, .unset, .unset] [(.int (512 : Int32))])) (fun _ kk => XT.sipushV X0.here hx rfl (512 : Int32) (hb hby at_27) (by decide) kk) ?_
  obtain ⟨T1, h2, cA3, X4, e5, E6, A7, EX12, st8⟩ := newPE X0 hx hZ (own_w hw 0 rfl) e0 (g := (mkF m 30 #[.val (.int p0), .val (.long p1), .second, .val (.int p2), .val (.int p3), .val (.int p4), .val (.int p5), .val (.int (Int32.ofNat na)), .val (.int (Int32.ofNat nc)), .val (.int (Int32.ofNat nd)), .unset, .unset, .unset, .unset, .unset, .unset, .unset, .unset, .unset, .unset] [(.int (512 : Int32))])) rfl (hb hby at_30) rfl (by decide) (cap := 512) (by decide) (by decide) (by decide) (by decide) (ad := "[B") rfl
  obtain ⟨a9, g10⟩ : ∃ z, z = h0.size := ⟨_, rfl⟩
  rw [← g10] at A7 st8 EX12
  refine own_st st8 ?_
  show own_Out _ _ _ _ (T1.setTop (mkF m 32 #[.val (.int p0), .val (.long p1), .second, .val (.int p2), .val (.int p3), .val (.int p4), .val (.int p5), .val (.int (Int32.ofNat na)), .val (.int (Int32.ofNat nc)), .val (.int (Int32.ofNat nd)), .unset, .unset, .unset, .unset, .unset, .unset, .unset, .unset, .unset, .unset] [(.ref a9)]))
  have graw : n0 ≤ a9 := Nat.le_trans Z0 (Nat.le_of_eq g10.symm)
  have Fb0 := own_AB_new (n := 512) A7 EX12 (by decide) rfl
  refine own_st (G := T1.setTop (mkF m 34 #[.val (.int p0), .val (.long p1), .second, .val (.int p2), .val (.int p3), .val (.int p4), .val (.int p5), .val (.int (Int32.ofNat na)), .val (.int (Int32.ofNat nc)), .val (.int (Int32.ofNat nd)), .val (.ref a9), .unset, .unset, .unset, .unset, .unset, .unset, .unset, .unset, .unset] [])) (fun _ kk => XS.astore X4.here hx rfl (hb hby at_32) rfl rfl (l' := #[.val (.int p0), .val (.long p1), .second, .val (.int p2), .val (.int p3), .val (.int p4), .val (.int p5), .val (.int (Int32.ofNat na)), .val (.int (Int32.ofNat nc)), .val (.int (Int32.ofNat nd)), .val (.ref a9), .unset, .unset, .unset, .unset, .unset, .unset, .unset, .unset, .unset]) rfl kk) ?_
  refine own_st (G := T1.setTop (mkF m 36 #[.val (.int p0), .val (.long p1), .second, .val (.int p2), .val (.int p3), .val (.int p4), .val (.int p5), .val (.int (Int32.ofNat na)), .val (.int (Int32.ofNat nc)), .val (.int (Int32.ofNat nd)), .val (.ref a9), .unset, .unset, .unset, .unset, .unset, .unset, .unset, .unset, .unset] [(.ref a9)])) (fun _ kk => XS.aload X4.here hx rfl (hb hby at_34) rfl rfl kk) ?_
  refine own_st (G := T1.setTop (mkF m 38 #[.val (.int p0), .val (.long p1), .second, .val (.int p2), .val (.int p3), .val (.int p4), .val (.int p5), .val (.int (Int32.ofNat na)), .val (.int (Int32.ofNat nc)), .val (.int (Int32.ofNat nd)), .val (.ref a9), .unset, .unset, .unset, .unset, .unset, .unset, .unset, .unset, .unset] [(.int p3), (.ref a9)])) (fun _ kk => XS.iload X4.here hx rfl (hb hby at_36) rfl kk) ?_
  refine own_st (G := T1.setTop (mkF m 41 #[.val (.int p0), .val (.long p1), .second, .val (.int p2), .val (.int p3), .val (.int p4), .val (.int p5), .val (.int (Int32.ofNat na)), .val (.int (Int32.ofNat nc)), .val (.int (Int32.ofNat nd)), .val (.ref a9), .unset, .unset, .unset, .unset, .unset, .unset, .unset, .unset, .unset] [(.int (511 : Int32)), (.int p3), (.ref a9)])) (fun _ kk => XT.sipushV X4.here hx rfl (511 : Int32) (hb hby at_38) (by decide) kk) ?_
  refine own_st (G := T1.setTop (mkF m 42 #[.val (.int p0), .val (.long p1), .second, .val (.int p2), .val (.int p3), .val (.int p4), .val (.int p5), .val (.int (Int32.ofNat na)), .val (.int (Int32.ofNat nc)), .val (.int (Int32.ofNat nd)), .val (.ref a9), .unset, .unset, .unset, .unset, .unset, .unset, .unset, .unset, .unset] [(.int (p3 &&& (511 : Int32))), (.ref a9)])) (fun _ kk => XS.iand X4.here hx rfl (hb hby at_41) rfl kk) ?_
  obtain ⟨n1, hn1, eq_n1⟩ := own_and511 p3
  rw [eq_n1]
  refine own_st (G := T1.setTop (mkF m 44 #[.val (.int p0), .val (.long p1), .second, .val (.int p2), .val (.int p3), .val (.int p4), .val (.int p5), .val (.int (Int32.ofNat na)), .val (.int (Int32.ofNat nc)), .val (.int (Int32.ofNat nd)), .val (.ref a9), .unset, .unset, .unset, .unset, .unset, .unset, .unset, .unset, .unset] [(.int p3), (.int (Int32.ofNat n1)), (.ref a9)])) (fun _ kk => XS.iload X4.here hx rfl (hb hby at_42) rfl kk) ?_
  refine own_st (G := T1.setTop (mkF m 46 #[.val (.int p0), .val (.long p1), .second, .val (.int p2), .val (.int p3), .val (.int p4), .val (.int p5), .val (.int (Int32.ofNat na)), .val (.int (Int32.ofNat nc)), .val (.int (Int32.ofNat nd)), .val (.ref a9), .unset, .unset, .unset, .unset, .unset, .unset, .unset, .unset, .unset] [(.int (9 : Int32)), (.int p3), (.int (Int32.ofNat n1)), (.ref a9)])) (fun _ kk => XT.bipushV X4.here hx rfl (9 : Int32) (hb hby at_44) (by decide) kk) ?_
  refine own_st (G := T1.setTop (mkF m 47 #[.val (.int p0), .val (.long p1), .second, .val (.int p2), .val (.int p3), .val (.int p4), .val (.int p5), .val (.int (Int32.ofNat na)), .val (.int (Int32.ofNat nc)), .val (.int (Int32.ofNat nd)), .val (.ref a9), .unset, .unset, .unset, .unset, .unset, .unset, .unset, .unset, .unset] [(.int (XT.ushr p3 (9 : Int32))), (.int (Int32.ofNat n1)), (.ref a9)])) (fun _ kk => XT.iushr X4.here hx rfl (hb hby at_46) rfl kk) ?_
  refine own_st (G := T1.setTop (mkF m 48 #[.val (.int p0), .val (.long p1), .second, .val (.int p2), .val (.int p3), .val (.int p4), .val (.int p5), .val (.int (Int32.ofNat na)), .val (.int (Int32.ofNat nc)), .val (.int (Int32.ofNat nd)), .val (.ref a9), .unset, .unset, .unset, .unset, .unset, .unset, .unset, .unset, .unset] [(.int (XT.ushr p3 (9 : Int32)).toInt8.toInt32), (.int (Int32.ofNat n1)), (.ref a9)])) (fun _ kk => XS.i2b X4.here hx rfl (hb hby at_47) rfl kk) ?_
  refine own_bastore X4 hx hZ e5 Fb0 (j := (Int32.ofNat n1)) (i := n1) (own_ixn (n := n1) (by omega)).1 (own_ixn (n := n1) (by omega)).2 (by omega) (hb hby at_48) ?_
  intro T13 h14 X15 e16 W17 F18
  show own_Out _ _ _ _ (T13.setTop (mkF m 49 #[.val (.int p0), .val (.long p1), .second, .val (.int p2), .val (.int p3), .val (.int p4), .val (.int p5), .val (.int (Int32.ofNat na)), .val (.int (Int32.ofNat nc)), .val (.int (Int32.ofNat nd)), .val (.ref a9), .unset, .unset, .unset, .unset, .unset, .unset, .unset, .unset, .unset] []))
  have N19 := Fr.snoc X15 N0 graw
  refine own_st (G := T13.setTop (mkF m 51 #[.val (.int p0), .val (.long p1), .second, .val (.int p2), .val (.int p3), .val (.int p4), .val (.int p5), .val (.int (Int32.ofNat na)), .val (.int (Int32.ofNat nc)), .val (.int (Int32.ofNat nd)), .val (.ref a9), .unset, .unset, .unset, .unset, .unset, .unset, .unset, .unset, .unset] [(.ref a9)])) (fun _ kk => XS.aload X15.here hx rfl (hb hby at_49) rfl rfl kk) ?_
  refine own_st (G := T13.setTop (mkF m 53 #[.val (.int p0), .val (.long p1), .second, .val (.int p2), .val (.int p3), .val (.int p4), .val (.int p5), .val (.int (Int32.ofNat na)), .val (.int (Int32.ofNat nc)), .val (.int (Int32.ofNat nd)), .val (.ref a9), .unset, .unset, .unset, .unset, .unset, .unset, .unset, .unset, .unset] [(.int p4), (.ref a9)])) (fun _ kk => XS.iload X15.here hx rfl (hb hby at_51) rfl kk) ?_
  refine own_st (G := T13.setTop (mkF m 56 #[.val (.int p0), .val (.long p1), .second, .val (.int p2), .val (.int p3), .val (.int p4), .val (.int p5), .val (.int (Int32.ofNat na)), .val (.int (Int32.ofNat nc)), .val (.int (Int32.ofNat nd)), .val (.ref a9), .unset, .unset, .unset, .unset, .unset, .unset, .unset, .unset, .unset] [(.int (511 : Int32)), (.int p4), (.ref a9)])) (fun _ kk => XT.sipushV X15.here hx rfl (511 : Int32) (hb hby at_53) (by decide) kk) ?_
  refine own_st (G := T13.setTop (mkF m 57 #[.val (.int p0), .val (.long p1), .second, .val (.int p2), .val (.int p3), .val (.int p4), .val (.int p5), .val (.int (Int32.ofNat na)), .val (.int (Int32.ofNat nc)), .val (.int (Int32.ofNat nd)), .val (.ref a9), .unset, .unset, .unset, .unset, .unset, .unset, .unset, .unset, .unset] [(.int (p4 &&& (511 : Int32))), (.ref a9)])) (fun _ kk => XS.iand X15.here hx rfl (hb hby at_56) rfl kk) ?_
  obtain ⟨n2, hn2, eq_n2⟩ := own_and511 p4
  rw [eq_n2]
  refine own_st (G := T13.setTop (mkF m 59 #[.val (.int p0), .val (.long p1), .second, .val (.int p2), .val (.int p3), .val (.int p4), .val (.int p5), .val (.int (Int32.ofNat na)), .val (.int (Int32.ofNat nc)), .val (.int (Int32.ofNat nd)), .val (.ref a9), .unset, .unset, .unset, .unset, .unset, .unset, .unset, .unset, .unset] [(.int p4), (.int (Int32.ofNat n2)), (.ref a9)])) (fun _ kk => XS.iload X15.here hx rfl (hb hby at_57) rfl kk) ?_
  refine own_st (G := T13.setTop (mkF m 61 #[.val (.int p0), .val (.long p1), .second, .val (.int p2), .val (.int p3), .val (.int p4), .val (.int p5), .val (.int (Int32.ofNat na)), .val (.int (Int32.ofNat nc)), .val (.int (Int32.ofNat nd)), .val (.ref a9), .unset, .unset, .unset, .unset, .unset, .unset, .unset, .unset, .unset] [(.int (9 : Int32)), (.int p4), (.int (Int32.ofNat n2)), (.ref a9)])) (fun _ kk => XT.bipushV X15.here hx rfl (9 : Int32) (hb hby at_59) (by decide) kk) ?_
  refine own_st (G := T13.setTop (mkF m 62 #[.val (.int p0), .val (.long p1), .second, .val (.int p2), .val (.int p3), .val (.int p4), .val (.int p5), .val (.int (Int32.ofNat na)), .val (.int (Int32.ofNat nc)), .val (.int (Int32.ofNat nd)), .val (.ref a9), .unset, .unset, .unset, .unset, .unset, .unset, .unset, .unset, .unset] [(.int (XT.ushr p4 (9 : Int32))), (.int (Int32.ofNat n2)), (.ref a9)])) (fun _ kk => XT.iushr X15.here hx rfl (hb hby at_61) rfl kk) ?_
  refine own_st (G := T13.setTop (mkF m 63 #[.val (.int p0), .val (.long p1), .second, .val (.int p2), .val (.int p3), .val (.int p4), .val (.int p5), .val (.int (Int32.ofNat na)), .val (.int (Int32.ofNat nc)), .val (.int (Int32.ofNat nd)), .val (.ref a9), .unset, .unset, .unset, .unset, .unset, .unset, .unset, .unset, .unset] [(.int (XT.ushr p4 (9 : Int32)).toInt8.toInt32), (.int (Int32.ofNat n2)), (.ref a9)])) (fun _ kk => XS.i2b X15.here hx rfl (hb hby at_62) rfl kk) ?_
  refine own_bastore X15 hx hZ e16 F18 (j := (Int32.ofNat n2)) (i := n2) (own_ixn (n := n2) (by omega)).1 (own_ixn (n := n2) (by omega)).2 (by omega) (hb hby at_63) ?_
  intro T20 h21 X22 e23 W24 F25
  show own_Out _ _ _ _ (T20.setTop (mkF m 64 #[.val (.int p0), .val (.long p1), .second, .val (.int p2), .val (.int p3), .val (.int p4), .val (.int p5), .val (.int (Int32.ofNat na)), .val (.int (Int32.ofNat nc)), .val (.int (Int32.ofNat nd)), .val (.ref a9), .unset, .unset, .unset, .unset, .unset, .unset, .unset, .unset, .unset] []))
  have N26 := Fr.snoc X22 N19 graw
  obtain ⟨fr, Fb⟩ : ∃ f, own_AB Z h21 a9 512 f := ⟨_, F25⟩
  refine own_st (G := T20.setTop (mkF m 66 #[.val (.int p0), .val (.long p1), .second, .val (.int p2), .val (.int p3), .val (.int p4), .val (.int p5), .val (.int (Int32.ofNat na)), .val (.int (Int32.ofNat nc)), .val (.int (Int32.ofNat nd)), .val (.ref a9), .unset, .unset, .unset, .unset, .unset, .unset, .unset, .unset, .unset] [(.int (Int32.ofNat na))])) (fun _ kk => XS.iload X22.here hx rfl (hb hby at_64) rfl kk) ?_
  refine own_st (G := T20.setTop (mkF m 68 #[.val (.int p0), .val (.long p1), .second, .val (.int p2), .val (.int p3), .val (.int p4), .val (.int p5), .val (.int (Int32.ofNat na)), .val (.int (Int32.ofNat nc)), .val (.int (Int32.ofNat nd)), .val (.ref a9), .unset, .unset, .unset, .unset, .unset, .unset, .unset, .unset, .unset] [(.int (Int32.ofNat nc)), (.int (Int32.ofNat na))])) (fun _ kk => XS.iload X22.here hx rfl (hb hby at_66) rfl kk) ?_
  refine own_st (G := T20.setTop (mkF m 69 #[.val (.int p0), .val (.long p1), .second, .val (.int p2), .val (.int p3), .val (.int p4), .val (.int p5), .val (.int (Int32.ofNat na)), .val (.int (Int32.ofNat nc)), .val (.int (Int32.ofNat nd)), .val (.ref a9), .unset, .unset, .unset, .unset, .unset, .unset, .unset, .unset, .unset] [(.int ((Int32.ofNat na) + (Int32.ofNat nc)))])) (fun _ kk => XS.iadd X22.here hx rfl (hb hby at_68) rfl kk) ?_
  refine own_st (G := T20.setTop (mkF m 71 #[.val (.int p0), .val (.long p1), .second, .val (.int p2), .val (.int p3), .val (.int p4), .val (.int p5), .val (.int (Int32.ofNat na)), .val (.int (Int32.ofNat nc)), .val (.int (Int32.ofNat nd)), .val (.ref a9), .unset, .unset, .unset, .unset, .unset, .unset, .unset, .unset, .unset] [(.int (Int32.ofNat nd)), (.int ((Int32.ofNat na) + (Int32.ofNat nc)))])) (fun _ kk => XS.iload X22.here hx rfl (hb hby at_69) rfl kk) ?_
  refine own_st (G := T20.setTop (mkF m 72 #[.val (.int p0), .val (.long p1), .second, .val (.int p2), .val (.int p3), .val (.int p4), .val (.int p5), .val (.int (Int32.ofNat na)), .val (.int (Int32.ofNat nc)), .val (.int (Int32.ofNat nd)), .val (.ref a9), .unset, .unset, .unset, .unset, .unset, .unset, .unset, .unset, .unset] [(.int (((Int32.ofNat na) + (Int32.ofNat nc)) + (Int32.ofNat nd)))])) (fun _ kk => XS.iadd X22.here hx rfl (hb hby at_71) rfl kk) ?_
  rw [show (((Int32.ofNat na) + (Int32.ofNat nc)) + (Int32.ofNat nd)) = (Int32.ofNat (na + nc + nd)) from (by rw [own_addI (by omega), own_addI (by omega)])]
  refine own_st (G := T20.setTop (mkF m 74 #[.val (.int p0), .val (.long p1), .second, .val (.int p2), .val (.int p3), .val (.int p4), .val (.int p5), .val (.int (Int32.ofNat na)), .val (.int (Int32.ofNat nc)), .val (.int (Int32.ofNat nd)), .val (.ref a9), .val (.int (Int32.ofNat (na + nc + nd))), .unset, .unset, .unset, .unset, .unset, .unset, .unset, .unset] [])) (fun _ kk => XS.istore X22.here hx rfl (hb hby at_72) rfl (l' := #[.val (.int p0), .val (.long p1), .second, .val (.int p2), .val (.int p3), .val (.int p4), .val (.int p5), .val (.int (Int32.ofNat na)), .val (.int (Int32.ofNat nc)), .val (.int (Int32.ofNat nd)), .val (.ref a9), .val (.int (Int32.ofNat (na + nc + nd))), .unset, .unset, .unset, .unset, .unset, .unset, .unset, .unset]) rfl kk) ?_
  refine own_st (G := T20.setTop (mkF m 75 #[.val (.int p0), .val (.long p1), .second, .val (.int p2), .val (.int p3), .val (.int p4), .val (.int p5), .val (.int (Int32.ofNat na)), .val (.int (Int32.ofNat nc)), .val (.int (Int32.ofNat nd)), .val (.ref a9), .val (.int (Int32.ofNat (na + nc + nd))), .unset, .unset, .unset, .unset, .unset, .unset, .unset, .unset] [(.long p1)])) (fun _ kk => XS.lloadN X22.here hx rfl (hb hby at_74) rfl kk) ?_
  refine own_st (G := T20.setTop (mkF m 78 #[.val (.int p0), .val (.long p1), .second, .val (.int p2), .val (.int p3), .val (.int p4), .val (.int p5), .val (.int (Int32.ofNat na)), .val (.int (Int32.ofNat nc)), .val (.int (Int32.ofNat nd)), .val (.ref a9), .val (.int (Int32.ofNat (na + nc + nd))), .unset, .unset, .unset, .unset, .unset, .unset, .unset, .unset] [(.long (9223372036854775807 : Int64)), (.long p1)])) (fun _ kk => X22.ldc2Long hx hown (mvT hZ (own_w hw 1 rfl)) (g := (mkF m 75 #[.val (.int p0), .val (.long p1), .second, .val (.int p2), .val (.int p3), .val (.int p4), .val (.int p5), .val (.int (Int32.ofNat na)), .val (.int (Int32.ofNat nc)), .val (.int (Int32.ofNat nd)), .val (.ref a9), .val (.int (Int32.ofNat (na + nc + nd))), .unset, .unset, .unset, .unset, .unset, .unset, .unset, .unset] [(.long p1)])) rfl (hb hby at_75) _ kk) ?_
  refine own_st (G := T20.setTop (mkF m 79 #[.val (.int p0), .val (.long p1), .second, .val (.int p2), .val (.int p3), .val (.int p4), .val (.int p5), .val (.int (Int32.ofNat na)), .val (.int (Int32.ofNat nc)), .val (.int (Int32.ofNat nd)), .val (.ref a9), .val (.int (Int32.ofNat (na + nc + nd))), .unset, .unset, .unset, .unset, .unset, .unset, .unset, .unset] [(.long (p1 &&& (9223372036854775807 : Int64)))])) (fun _ kk => XS.land X22.here hx rfl (hb hby at_78) rfl kk) ?_
  refine own_st (G := T20.setTop (mkF m 81 #[.val (.int p0), .val (.long p1), .second, .val (.int p2), .val (.int p3), .val (.int p4), .val (.int p5), .val (.int (Int32.ofNat na)), .val (.int (Int32.ofNat nc)), .val (.int (Int32.ofNat nd)), .val (.ref a9), .val (.int (Int32.ofNat (na + nc + nd))), .unset, .unset, .unset, .unset, .unset, .unset, .unset, .unset] [(.int (Int32.ofNat (na + nc + nd))), (.long (p1 &&& (9223372036854775807 : Int64)))])) (fun _ kk => XS.iload X22.here hx rfl (hb hby at_79) rfl kk) ?_
  refine own_st (G := T20.setTop (mkF m 82 #[.val (.int p0), .val (.long p1), .second, .val (.int p2), .val (.int p3), .val (.int p4), .val (.int p5), .val (.int (Int32.ofNat na)), .val (.int (Int32.ofNat nc)), .val (.int (Int32.ofNat nd)), .val (.ref a9), .val (.int (Int32.ofNat (na + nc + nd))), .unset, .unset, .unset, .unset, .unset, .unset, .unset, .unset] [(.int (1 : Int32)), (.int (Int32.ofNat (na + nc + nd))), (.long (p1 &&& (9223372036854775807 : Int64)))])) (fun _ kk => XT.iconstV X22.here hx rfl (1 : Int32) (hb hby at_81) (by decide) kk) ?_
  refine own_st (G := T20.setTop (mkF m 83 #[.val (.int p0), .val (.long p1), .second, .val (.int p2), .val (.int p3), .val (.int p4), .val (.int p5), .val (.int (Int32.ofNat na)), .val (.int (Int32.ofNat nc)), .val (.int (Int32.ofNat nd)), .val (.ref a9), .val (.int (Int32.ofNat (na + nc + nd))), .unset, .unset, .unset, .unset, .unset, .unset, .unset, .unset] [(.int ((Int32.ofNat (na + nc + nd)) + (1 : Int32))), (.long (p1 &&& (9223372036854775807 : Int64)))])) (fun _ kk => XS.iadd X22.here hx rfl (hb hby at_82) rfl kk) ?_
  rw [show ((Int32.ofNat (na + nc + nd)) + (1 : Int32)) = (Int32.ofNat (na + nc + nd + 1)) from own_addI (y := 1) (by omega)]
  refine own_st (G := T20.setTop (mkF m 84 #[.val (.int p0), .val (.long p1), .second, .val (.int p2), .val (.int p3), .val (.int p4), .val (.int p5), .val (.int (Int32.ofNat na)), .val (.int (Int32.ofNat nc)), .val (.int (Int32.ofNat nd)), .val (.ref a9), .val (.int (Int32.ofNat (na + nc + nd))), .unset, .unset, .unset, .unset, .unset, .unset, .unset, .unset] [(.long (Int32.ofNat (na + nc + nd + 1)).toInt64), (.long (p1 &&& (9223372036854775807 : Int64)))])) (fun _ kk => XS.i2l X22.here hx rfl (hb hby at_83) rfl kk) ?_
  rw [show (Int32.ofNat (na + nc + nd + 1)).toInt64 = (Int64.ofNat (na + nc + nd + 1)) from own_i64 (by omega)]
  refine own_st (G := T20.setTop (mkF m 85 #[.val (.int p0), .val (.long p1), .second, .val (.int p2), .val (.int p3), .val (.int p4), .val (.int p5), .val (.int (Int32.ofNat na)), .val (.int (Int32.ofNat nc)), .val (.int (Int32.ofNat nd)), .val (.ref a9), .val (.int (Int32.ofNat (na + nc + nd))), .unset, .unset, .unset, .unset, .unset, .unset, .unset, .unset] [(.long ((p1 &&& (9223372036854775807 : Int64)) - ((p1 &&& (9223372036854775807 : Int64)) / (Int64.ofNat (na + nc + nd + 1))) * (Int64.ofNat (na + nc + nd + 1))))])) (fun _ kk => XS.lrem X22.here hx rfl (hb hby at_84) rfl (own_nz (t := na + nc + nd) (by omega)) kk) ?_
  obtain ⟨q, hq, eqq⟩ := own_kept p1 (t := na + nc + nd) (by omega)
  rw [eqq]
  refine own_st (G := T20.setTop (mkF m 87 #[.val (.int p0), .val (.long p1), .second, .val (.int p2), .val (.int p3), .val (.int p4), .val (.int p5), .val (.int (Int32.ofNat na)), .val (.int (Int32.ofNat nc)), .val (.int (Int32.ofNat nd)), .val (.ref a9), .val (.int (Int32.ofNat (na + nc + nd))), .val (.long (Int64.ofNat q)), .second, .unset, .unset, .unset, .unset, .unset, .unset] [])) (fun _ kk => XS.lstore X22.here hx rfl (hb hby at_85) rfl (l' := #[.val (.int p0), .val (.long p1), .second, .val (.int p2), .val (.int p3), .val (.int p4), .val (.int p5), .val (.int (Int32.ofNat na)), .val (.int (Int32.ofNat nc)), .val (.int (Int32.ofNat nd)), .val (.ref a9), .val (.int (Int32.ofNat (na + nc + nd))), .val (.long (Int64.ofNat q)), .second, .unset, .unset, .unset, .unset, .unset, .unset]) rfl kk) ?_
  refine own_st (G := T20.setTop (mkF m 89 #[.val (.int p0), .val (.long p1), .second, .val (.int p2), .val (.int p3), .val (.int p4), .val (.int p5), .val (.int (Int32.ofNat na)), .val (.int (Int32.ofNat nc)), .val (.int (Int32.ofNat nd)), .val (.ref a9), .val (.int (Int32.ofNat (na + nc + nd))), .val (.long (Int64.ofNat q)), .second, .unset, .unset, .unset, .unset, .unset, .unset] [(.int p5)])) (fun _ kk => XS.iload X22.here hx rfl (hb hby at_87) rfl kk) ?_
  refine own_st (G := T20.setTop (mkF m 91 #[.val (.int p0), .val (.long p1), .second, .val (.int p2), .val (.int p3), .val (.int p4), .val (.int p5), .val (.int (Int32.ofNat na)), .val (.int (Int32.ofNat nc)), .val (.int (Int32.ofNat nd)), .val (.ref a9), .val (.int (Int32.ofNat (na + nc + nd))), .val (.long (Int64.ofNat q)), .second, .unset, .unset, .unset, .unset, .unset, .unset] [(.int (127 : Int32)), (.int p5)])) (fun _ kk => XT.bipushV X22.here hx rfl (127 : Int32) (hb hby at_89) (by decide) kk) ?_
  refine own_st (G := T20.setTop (mkF m 92 #[.val (.int p0), .val (.long p1), .second, .val (.int p2), .val (.int p3), .val (.int p4), .val (.int p5), .val (.int (Int32.ofNat na)), .val (.int (Int32.ofNat nc)), .val (.int (Int32.ofNat nd)), .val (.ref a9), .val (.int (Int32.ofNat (na + nc + nd))), .val (.long (Int64.ofNat q)), .second, .unset, .unset, .unset, .unset, .unset, .unset] [(.int (p5 &&& (127 : Int32)))])) (fun _ kk => XS.iand X22.here hx rfl (hb hby at_91) rfl kk) ?_
  refine own_st (G := T20.setTop (mkF m 93 #[.val (.int p0), .val (.long p1), .second, .val (.int p2), .val (.int p3), .val (.int p4), .val (.int p5), .val (.int (Int32.ofNat na)), .val (.int (Int32.ofNat nc)), .val (.int (Int32.ofNat nd)), .val (.ref a9), .val (.int (Int32.ofNat (na + nc + nd))), .val (.long (Int64.ofNat q)), .second, .unset, .unset, .unset, .unset, .unset, .unset] [(.int (p5 &&& (127 : Int32)).toUInt32.toUInt16.toUInt32.toInt32)])) (fun _ kk => XS.i2c X22.here hx rfl (hb hby at_92) rfl kk) ?_
  have hcc := own_cc p5
  generalize (p5 &&& (127 : Int32)).toUInt32.toUInt16.toUInt32.toInt32 = cc at hcc ⊢
  refine own_st (G := T20.setTop (mkF m 95 #[.val (.int p0), .val (.long p1), .second, .val (.int p2), .val (.int p3), .val (.int p4), .val (.int p5), .val (.int (Int32.ofNat na)), .val (.int (Int32.ofNat nc)), .val (.int (Int32.ofNat nd)), .val (.ref a9), .val (.int (Int32.ofNat (na + nc + nd))), .val (.long (Int64.ofNat q)), .second, .val (.int cc), .unset, .unset, .unset, .unset, .unset] [])) (fun _ kk => XS.istore X22.here hx rfl (hb hby at_93) rfl (l' := #[.val (.int p0), .val (.long p1), .second, .val (.int p2), .val (.int p3), .val (.int p4), .val (.int p5), .val (.int (Int32.ofNat na)), .val (.int (Int32.ofNat nc)), .val (.int (Int32.ofNat nd)), .val (.ref a9), .val (.int (Int32.ofNat (na + nc + nd))), .val (.long (Int64.ofNat q)), .second, .val (.int cc), .unset, .unset, .unset, .unset, .unset]) rfl kk) ?_
  obtain ⟨T27, h28, X29, e30, E31, A32, D33, U35, st34⟩ := newO X22 hx hZ hown (own_w hw 2 rfl) (own_w hw 3 rfl) (own_w hw 4 rfl) e23 (g := (mkF m 95 #[.val (.int p0), .val (.long p1), .second, .val (.int p2), .val (.int p3), .val (.int p4), .val (.int p5), .val (.int (Int32.ofNat na)), .val (.int (Int32.ofNat nc)), .val (.int (Int32.ofNat nd)), .val (.ref a9), .val (.int (Int32.ofNat (na + nc + nd))), .val (.long (Int64.ofNat q)), .second, .val (.int cc), .unset, .unset, .unset, .unset, .unset] [])) rfl (hb hby at_95) (by decide) (by decide)
  obtain ⟨a36, g37⟩ : ∃ z, z = h21.size := ⟨_, rfl⟩
  rw [← g37] at A32 D33 U35 st34
  refine own_st st34 ?_
  show own_Out _ _ _ _ (T27.setTop (mkF m 98 #[.val (.int p0), .val (.long p1), .second, .val (.int p2), .val (.int p3), .val (.int p4), .val (.int p5), .val (.int (Int32.ofNat na)), .val (.int (Int32.ofNat nc)), .val (.int (Int32.ofNat nd)), .val (.ref a9), .val (.int (Int32.ofNat (na + nc + nd))), .val (.long (Int64.ofNat q)), .second, .val (.int cc), .unset, .unset, .unset, .unset, .unset] [(.ref a36)]))
  have O0 : own_B Z h28 a36 .null .null .null (0 : Int32) (0 : Int64) (0 : Int32) (0 : Int32) := ⟨A32, D33 (Or.inl (own_w hw 13 rfl)) (ty := .array (.byte)) (by decide), D33 (Or.inl (own_w hw 17 rfl)) (ty := .array (.array (.byte))) (by decide), D33 (Or.inl (own_w hw 20 rfl)) (ty := .array (.int)) (by decide), D33 (Or.inl (own_w hw 91 rfl)) (ty := .int) (by decide), D33 (Or.inl (own_w hw 44 rfl)) (ty := .long) (by decide), D33 (Or.inl (own_w hw 33 rfl)) (ty := .int) (by decide), D33 (Or.inr (own_w hw 22 rfl)) (ty := .int) (by decide)⟩
  have hra : a9 < a36 := by rw [g37]; exact own_AB_lt Fb
  have ga : n0 ≤ a36 := Nat.le_trans graw (Nat.le_of_lt hra)
  have Fb38 := own_AB_ext Fb E31
  obtain ⟨F0, hF0⟩ : ∃ f : Nat → Int32, f = fun _ => 0 := ⟨_, rfl⟩
  refine own_st (G := T27.setTop (mkF m 99 #[.val (.int p0), .val (.long p1), .second, .val (.int p2), .val (.int p3), .val (.int p4), .val (.int p5), .val (.int (Int32.ofNat na)), .val (.int (Int32.ofNat nc)), .val (.int (Int32.ofNat nd)), .val (.ref a9), .val (.int (Int32.ofNat (na + nc + nd))), .val (.long (Int64.ofNat q)), .second, .val (.int cc), .unset, .unset, .unset, .unset, .unset] [(.ref a36), (.ref a36)])) (fun _ kk => XS.dup X29.here hx rfl (hb hby at_98) rfl rfl kk) ?_
  refine own_st (G := T27.setTop (mkF m 101 #[.val (.int p0), .val (.long p1), .second, .val (.int p2), .val (.int p3), .val (.int p4), .val (.int p5), .val (.int (Int32.ofNat na)), .val (.int (Int32.ofNat nc)), .val (.int (Int32.ofNat nd)), .val (.ref a9), .val (.int (Int32.ofNat (na + nc + nd))), .val (.long (Int64.ofNat q)), .second, .val (.int cc), .unset, .unset, .unset, .unset, .unset] [(.int (1048576 : Int32)), (.ref a36), (.ref a36)])) (fun _ kk => X29.ldcInt hx hown (mvT hZ (own_w hw 5 rfl)) (g := (mkF m 99 #[.val (.int p0), .val (.long p1), .second, .val (.int p2), .val (.int p3), .val (.int p4), .val (.int p5), .val (.int (Int32.ofNat na)), .val (.int (Int32.ofNat nc)), .val (.int (Int32.ofNat nd)), .val (.ref a9), .val (.int (Int32.ofNat (na + nc + nd))), .val (.long (Int64.ofNat q)), .second, .val (.int cc), .unset, .unset, .unset, .unset, .unset] [(.ref a36), (.ref a36)])) rfl (hb hby at_99) _ kk) ?_
  refine own_callI X29 hx hZ (y := (⟨"com/example/kennel/kennel/Utf8Builder", "<init>", "(I)V"⟩ : MethodName)) (b := a36) (as' := [(.int (1048576 : Int32))]) rfl hown (own_w hw 6 rfl) (own_w hw 7 rfl) (own_w hw 8 rfl) (own_w hw 4 rfl) (by decide) (own_ini l Z a0 hw [] a36 F0 h28 n0 ga O0) 1 (by decide) (by decide) (by decide) (by decide) (rest := [(.ref a36)]) (by rw [hml]; rfl) (lenOf (by decide : parseMethodDescriptor "(I)V" = some ⟨[.int], none⟩) rfl) rfl (Nat.le_of_eq rfl) (hb hby at_101) e30 ?_
  intro T42 L43 v45 X44 hQ
  obtain ⟨rfl, N39', Bl41, V40⟩ := hQ
  show own_Out _ _ _ _ (T42.setTop (mkF m 104 #[.val (.int p0), .val (.long p1), .second, .val (.int p2), .val (.int p3), .val (.int p4), .val (.int p5), .val (.int (Int32.ofNat na)), .val (.int (Int32.ofNat nc)), .val (.int (Int32.ofNat nd)), .val (.ref a9), .val (.int (Int32.ofNat (na + nc + nd))), .val (.long (Int64.ofNat q)), .second, .val (.int cc), .unset, .unset, .unset, .unset, .unset] [(.ref a36)]))
  have N39 := Fr.app N26 N39'
  have Fb46 := own_AB_bl Fb38 Bl41 hra
  refine own_st (G := T42.setTop (mkF m 106 #[.val (.int p0), .val (.long p1), .second, .val (.int p2), .val (.int p3), .val (.int p4), .val (.int p5), .val (.int (Int32.ofNat na)), .val (.int (Int32.ofNat nc)), .val (.int (Int32.ofNat nd)), .val (.ref a9), .val (.int (Int32.ofNat (na + nc + nd))), .val (.long (Int64.ofNat q)), .second, .val (.int cc), .val (.ref a36), .unset, .unset, .unset, .unset] [])) (fun _ kk => XS.astore X44.here hx rfl (hb hby at_104) rfl rfl (l' := #[.val (.int p0), .val (.long p1), .second, .val (.int p2), .val (.int p3), .val (.int p4), .val (.int p5), .val (.int (Int32.ofNat na)), .val (.int (Int32.ofNat nc)), .val (.int (Int32.ofNat nd)), .val (.ref a9), .val (.int (Int32.ofNat (na + nc + nd))), .val (.long (Int64.ofNat q)), .second, .val (.int cc), .val (.ref a36), .unset, .unset, .unset, .unset]) rfl kk) ?_
  refine own_st (G := T42.setTop (mkF m 108 #[.val (.int p0), .val (.long p1), .second, .val (.int p2), .val (.int p3), .val (.int p4), .val (.int p5), .val (.int (Int32.ofNat na)), .val (.int (Int32.ofNat nc)), .val (.int (Int32.ofNat nd)), .val (.ref a9), .val (.int (Int32.ofNat (na + nc + nd))), .val (.long (Int64.ofNat q)), .second, .val (.int cc), .val (.ref a36), .unset, .unset, .unset, .unset] [(.ref a36)])) (fun _ kk => XS.aload X44.here hx rfl (hb hby at_106) rfl rfl kk) ?_
  refine own_st (G := T42.setTop (mkF m 110 #[.val (.int p0), .val (.long p1), .second, .val (.int p2), .val (.int p3), .val (.int p4), .val (.int p5), .val (.int (Int32.ofNat na)), .val (.int (Int32.ofNat nc)), .val (.int (Int32.ofNat nd)), .val (.ref a9), .val (.int (Int32.ofNat (na + nc + nd))), .val (.long (Int64.ofNat q)), .second, .val (.int cc), .val (.ref a36), .unset, .unset, .unset, .unset] [(.ref a9), (.ref a36)])) (fun _ kk => XS.aload X44.here hx rfl (hb hby at_108) rfl rfl kk) ?_
  refine own_st (G := T42.setTop (mkF m 111 #[.val (.int p0), .val (.long p1), .second, .val (.int p2), .val (.int p3), .val (.int p4), .val (.int p5), .val (.int (Int32.ofNat na)), .val (.int (Int32.ofNat nc)), .val (.int (Int32.ofNat nd)), .val (.ref a9), .val (.int (Int32.ofNat (na + nc + nd))), .val (.long (Int64.ofNat q)), .second, .val (.int cc), .val (.ref a36), .unset, .unset, .unset, .unset] [(.int (0 : Int32)), (.ref a9), (.ref a36)])) (fun _ kk => XT.iconstV X44.here hx rfl (0 : Int32) (hb hby at_110) (by decide) kk) ?_
  refine own_st (G := T42.setTop (mkF m 113 #[.val (.int p0), .val (.long p1), .second, .val (.int p2), .val (.int p3), .val (.int p4), .val (.int p5), .val (.int (Int32.ofNat na)), .val (.int (Int32.ofNat nc)), .val (.int (Int32.ofNat nd)), .val (.ref a9), .val (.int (Int32.ofNat (na + nc + nd))), .val (.long (Int64.ofNat q)), .second, .val (.int cc), .val (.ref a36), .unset, .unset, .unset, .unset] [(.int (Int32.ofNat na)), (.int (0 : Int32)), (.ref a9), (.ref a36)])) (fun _ kk => XS.iload X44.here hx rfl (hb hby at_111) rfl kk) ?_
  refine own_callV X44 hx hZ (y := (⟨"com/example/kennel/kennel/Utf8Builder", "appendBytes", "([BII)Lcom/example/kennel/kennel/Utf8Builder;"⟩ : MethodName)) (b := a36) (as' := [(.ref a9), (.int (0 : Int32)), (.int (Int32.ofNat na))]) hown (own_w hw 23 rfl) (own_w hw 24 rfl) (own_w hw 26 rfl) (own_w hw 25 rfl) (own_w hw 27 rfl) (own_w hw 4 rfl) (by decide) (own_app l Z a0 hw [] a36 a9 na 0 0 0 F0 fr T42.heap n0 V40 Fb46 hra hna (by omega) (by omega)) (own_V_exa V40) 0 (by decide) (by decide) (by decide) (by decide) (rest := []) (by rw [hml]; rfl) (lenOf (by decide : parseMethodDescriptor "([BII)Lcom/example/kennel/kennel/Utf8Builder;" = some ⟨[.array (.byte), .int, .int], some (.object "com/example/kennel/kennel/Utf8Builder")⟩) rfl) rfl (Nat.le_of_eq rfl) (hb hby at_113) rfl ?_
  intro T50 L51 v53 X52 hQ
  obtain ⟨rfl, N47', Bl49, V48⟩ := hQ
  show own_Out _ _ _ _ (T50.setTop (mkF m 116 #[.val (.int p0), .val (.long p1), .second, .val (.int p2), .val (.int p3), .val (.int p4), .val (.int p5), .val (.int (Int32.ofNat na)), .val (.int (Int32.ofNat nc)), .val (.int (Int32.ofNat nd)), .val (.ref a9), .val (.int (Int32.ofNat (na + nc + nd))), .val (.long (Int64.ofNat q)), .second, .val (.int cc), .val (.ref a36), .unset, .unset, .unset, .unset] [(.ref a36)]))
  have N47 := Fr.app N39 N47'
  have Fb54 := own_AB_bl Fb46 Bl49 hra
  obtain ⟨F1, hF1⟩ : ∃ f : Nat → Int32, f = fun p => if p < 0 then F0 p else fr (p - 0) := ⟨_, rfl⟩
  rw [← hF1] at V48
  rw [Nat.zero_add na] at V48
  refine own_st (G := T50.setTop (mkF m 117 #[.val (.int p0), .val (.long p1), .second, .val (.int p2), .val (.int p3), .val (.int p4), .val (.int p5), .val (.int (Int32.ofNat na)), .val (.int (Int32.ofNat nc)), .val (.int (Int32.ofNat nd)), .val (.ref a9), .val (.int (Int32.ofNat (na + nc + nd))), .val (.long (Int64.ofNat q)), .second, .val (.int cc), .val (.ref a36), .unset, .unset, .unset, .unset] [])) (fun _ kk => XS.pop X52.here hx rfl (hb hby at_116) rfl rfl kk) ?_
  refine own_st (G := T50.setTop (mkF m 119 #[.val (.int p0), .val (.long p1), .second, .val (.int p2), .val (.int p3), .val (.int p4), .val (.int p5), .val (.int (Int32.ofNat na)), .val (.int (Int32.ofNat nc)), .val (.int (Int32.ofNat nd)), .val (.ref a9), .val (.int (Int32.ofNat (na + nc + nd))), .val (.long (Int64.ofNat q)), .second, .val (.int cc), .val (.ref a36), .unset, .unset, .unset, .unset] [(.ref a36)])) (fun _ kk => XS.aload X52.here hx rfl (hb hby at_117) rfl rfl kk) ?_
  refine own_st (G := T50.setTop (mkF m 121 #[.val (.int p0), .val (.long p1), .second, .val (.int p2), .val (.int p3), .val (.int p4), .val (.int p5), .val (.int (Int32.ofNat na)), .val (.int (Int32.ofNat nc)), .val (.int (Int32.ofNat nd)), .val (.ref a9), .val (.int (Int32.ofNat (na + nc + nd))), .val (.long (Int64.ofNat q)), .second, .val (.int cc), .val (.ref a36), .unset, .unset, .unset, .unset] [(.ref a9), (.ref a36)])) (fun _ kk => XS.aload X52.here hx rfl (hb hby at_119) rfl rfl kk) ?_
  refine own_st (G := T50.setTop (mkF m 122 #[.val (.int p0), .val (.long p1), .second, .val (.int p2), .val (.int p3), .val (.int p4), .val (.int p5), .val (.int (Int32.ofNat na)), .val (.int (Int32.ofNat nc)), .val (.int (Int32.ofNat nd)), .val (.ref a9), .val (.int (Int32.ofNat (na + nc + nd))), .val (.long (Int64.ofNat q)), .second, .val (.int cc), .val (.ref a36), .unset, .unset, .unset, .unset] [(.int (0 : Int32)), (.ref a9), (.ref a36)])) (fun _ kk => XT.iconstV X52.here hx rfl (0 : Int32) (hb hby at_121) (by decide) kk) ?_
  refine own_st (G := T50.setTop (mkF m 124 #[.val (.int p0), .val (.long p1), .second, .val (.int p2), .val (.int p3), .val (.int p4), .val (.int p5), .val (.int (Int32.ofNat na)), .val (.int (Int32.ofNat nc)), .val (.int (Int32.ofNat nd)), .val (.ref a9), .val (.int (Int32.ofNat (na + nc + nd))), .val (.long (Int64.ofNat q)), .second, .val (.int cc), .val (.ref a36), .unset, .unset, .unset, .unset] [(.int (Int32.ofNat nc)), (.int (0 : Int32)), (.ref a9), (.ref a36)])) (fun _ kk => XS.iload X52.here hx rfl (hb hby at_122) rfl kk) ?_
  refine own_callV X52 hx hZ (y := (⟨"com/example/kennel/kennel/Utf8Builder", "appendBytes", "([BII)Lcom/example/kennel/kennel/Utf8Builder;"⟩ : MethodName)) (b := a36) (as' := [(.ref a9), (.int (0 : Int32)), (.int (Int32.ofNat nc))]) hown (own_w hw 23 rfl) (own_w hw 24 rfl) (own_w hw 26 rfl) (own_w hw 25 rfl) (own_w hw 27 rfl) (own_w hw 4 rfl) (by decide) (own_app l Z a0 hw [] a36 a9 nc 1 na 0 F1 fr T50.heap n0 V48 Fb54 hra hnc (by omega) (by omega)) (own_V_exa V48) 0 (by decide) (by decide) (by decide) (by decide) (rest := []) (by rw [hml]; rfl) (lenOf (by decide : parseMethodDescriptor "([BII)Lcom/example/kennel/kennel/Utf8Builder;" = some ⟨[.array (.byte), .int, .int], some (.object "com/example/kennel/kennel/Utf8Builder")⟩) rfl) rfl (Nat.le_of_eq rfl) (hb hby at_124) rfl ?_
  intro T58 L59 v61 X60 hQ
  obtain ⟨rfl, N55', Bl57, V56⟩ := hQ
  show own_Out _ _ _ _ (T58.setTop (mkF m 127 #[.val (.int p0), .val (.long p1), .second, .val (.int p2), .val (.int p3), .val (.int p4), .val (.int p5), .val (.int (Int32.ofNat na)), .val (.int (Int32.ofNat nc)), .val (.int (Int32.ofNat nd)), .val (.ref a9), .val (.int (Int32.ofNat (na + nc + nd))), .val (.long (Int64.ofNat q)), .second, .val (.int cc), .val (.ref a36), .unset, .unset, .unset, .unset] [(.ref a36)]))
  have N55 := Fr.app N47 N55'
  have Fb62 := own_AB_bl Fb54 Bl57 hra
  obtain ⟨F2, hF2⟩ : ∃ f : Nat → Int32, f = fun p => if p < na then F1 p else fr (p - na) := ⟨_, rfl⟩
  rw [← hF2] at V56
  refine own_st (G := T58.setTop (mkF m 128 #[.val (.int p0), .val (.long p1), .second, .val (.int p2), .val (.int p3), .val (.int p4), .val (.int p5), .val (.int (Int32.ofNat na)), .val (.int (Int32.ofNat nc)), .val (.int (Int32.ofNat nd)), .val (.ref a9), .val (.int (Int32.ofNat (na + nc + nd))), .val (.long (Int64.ofNat q)), .second, .val (.int cc), .val (.ref a36), .unset, .unset, .unset, .unset] [])) (fun _ kk => XS.pop X60.here hx rfl (hb hby at_127) rfl rfl kk) ?_
  refine own_st (G := T58.setTop (mkF m 130 #[.val (.int p0), .val (.long p1), .second, .val (.int p2), .val (.int p3), .val (.int p4), .val (.int p5), .val (.int (Int32.ofNat na)), .val (.int (Int32.ofNat nc)), .val (.int (Int32.ofNat nd)), .val (.ref a9), .val (.int (Int32.ofNat (na + nc + nd))), .val (.long (Int64.ofNat q)), .second, .val (.int cc), .val (.ref a36), .unset, .unset, .unset, .unset] [(.ref a36)])) (fun _ kk => XS.aload X60.here hx rfl (hb hby at_128) rfl rfl kk) ?_
  refine own_st (G := T58.setTop (mkF m 132 #[.val (.int p0), .val (.long p1), .second, .val (.int p2), .val (.int p3), .val (.int p4), .val (.int p5), .val (.int (Int32.ofNat na)), .val (.int (Int32.ofNat nc)), .val (.int (Int32.ofNat nd)), .val (.ref a9), .val (.int (Int32.ofNat (na + nc + nd))), .val (.long (Int64.ofNat q)), .second, .val (.int cc), .val (.ref a36), .unset, .unset, .unset, .unset] [(.ref a9), (.ref a36)])) (fun _ kk => XS.aload X60.here hx rfl (hb hby at_130) rfl rfl kk) ?_
  refine own_st (G := T58.setTop (mkF m 133 #[.val (.int p0), .val (.long p1), .second, .val (.int p2), .val (.int p3), .val (.int p4), .val (.int p5), .val (.int (Int32.ofNat na)), .val (.int (Int32.ofNat nc)), .val (.int (Int32.ofNat nd)), .val (.ref a9), .val (.int (Int32.ofNat (na + nc + nd))), .val (.long (Int64.ofNat q)), .second, .val (.int cc), .val (.ref a36), .unset, .unset, .unset, .unset] [(.int (0 : Int32)), (.ref a9), (.ref a36)])) (fun _ kk => XT.iconstV X60.here hx rfl (0 : Int32) (hb hby at_132) (by decide) kk) ?_
  refine own_st (G := T58.setTop (mkF m 135 #[.val (.int p0), .val (.long p1), .second, .val (.int p2), .val (.int p3), .val (.int p4), .val (.int p5), .val (.int (Int32.ofNat na)), .val (.int (Int32.ofNat nc)), .val (.int (Int32.ofNat nd)), .val (.ref a9), .val (.int (Int32.ofNat (na + nc + nd))), .val (.long (Int64.ofNat q)), .second, .val (.int cc), .val (.ref a36), .unset, .unset, .unset, .unset] [(.int (Int32.ofNat nd)), (.int (0 : Int32)), (.ref a9), (.ref a36)])) (fun _ kk => XS.iload X60.here hx rfl (hb hby at_133) rfl kk) ?_
  refine own_callV X60 hx hZ (y := (⟨"com/example/kennel/kennel/Utf8Builder", "appendBytes", "([BII)Lcom/example/kennel/kennel/Utf8Builder;"⟩ : MethodName)) (b := a36) (as' := [(.ref a9), (.int (0 : Int32)), (.int (Int32.ofNat nd))]) hown (own_w hw 23 rfl) (own_w hw 24 rfl) (own_w hw 26 rfl) (own_w hw 25 rfl) (own_w hw 27 rfl) (own_w hw 4 rfl) (by decide) (own_app l Z a0 hw [] a36 a9 nd 2 (na + nc) 0 F2 fr T58.heap n0 V56 Fb62 hra hnd (by omega) (by omega)) (own_V_exa V56) 0 (by decide) (by decide) (by decide) (by decide) (rest := []) (by rw [hml]; rfl) (lenOf (by decide : parseMethodDescriptor "([BII)Lcom/example/kennel/kennel/Utf8Builder;" = some ⟨[.array (.byte), .int, .int], some (.object "com/example/kennel/kennel/Utf8Builder")⟩) rfl) rfl (Nat.le_of_eq rfl) (hb hby at_135) rfl ?_
  intro T66 L67 v69 X68 hQ
  obtain ⟨rfl, N63', Bl65, V64⟩ := hQ
  show own_Out _ _ _ _ (T66.setTop (mkF m 138 #[.val (.int p0), .val (.long p1), .second, .val (.int p2), .val (.int p3), .val (.int p4), .val (.int p5), .val (.int (Int32.ofNat na)), .val (.int (Int32.ofNat nc)), .val (.int (Int32.ofNat nd)), .val (.ref a9), .val (.int (Int32.ofNat (na + nc + nd))), .val (.long (Int64.ofNat q)), .second, .val (.int cc), .val (.ref a36), .unset, .unset, .unset, .unset] [(.ref a36)]))
  have N63 := Fr.app N55 N63'
  have Fb70 := own_AB_bl Fb62 Bl65 hra
  obtain ⟨F3, hF3⟩ : ∃ f : Nat → Int32, f = fun p => if p < (na + nc) then F2 p else fr (p - (na + nc)) := ⟨_, rfl⟩
  rw [← hF3] at V64
  refine own_st (G := T66.setTop (mkF m 139 #[.val (.int p0), .val (.long p1), .second, .val (.int p2), .val (.int p3), .val (.int p4), .val (.int p5), .val (.int (Int32.ofNat na)), .val (.int (Int32.ofNat nc)), .val (.int (Int32.ofNat nd)), .val (.ref a9), .val (.int (Int32.ofNat (na + nc + nd))), .val (.long (Int64.ofNat q)), .second, .val (.int cc), .val (.ref a36), .unset, .unset, .unset, .unset] [])) (fun _ kk => XS.pop X68.here hx rfl (hb hby at_138) rfl rfl kk) ?_
  refine own_st (G := T66.setTop (mkF m 141 #[.val (.int p0), .val (.long p1), .second, .val (.int p2), .val (.int p3), .val (.int p4), .val (.int p5), .val (.int (Int32.ofNat na)), .val (.int (Int32.ofNat nc)), .val (.int (Int32.ofNat nd)), .val (.ref a9), .val (.int (Int32.ofNat (na + nc + nd))), .val (.long (Int64.ofNat q)), .second, .val (.int cc), .val (.ref a36), .unset, .unset, .unset, .unset] [(.ref a36)])) (fun _ kk => XS.aload X68.here hx rfl (hb hby at_139) rfl rfl kk) ?_
  refine own_st (G := T66.setTop (mkF m 143 #[.val (.int p0), .val (.long p1), .second, .val (.int p2), .val (.int p3), .val (.int p4), .val (.int p5), .val (.int (Int32.ofNat na)), .val (.int (Int32.ofNat nc)), .val (.int (Int32.ofNat nd)), .val (.ref a9), .val (.int (Int32.ofNat (na + nc + nd))), .val (.long (Int64.ofNat q)), .second, .val (.int cc), .val (.ref a36), .unset, .unset, .unset, .unset] [(.long (Int64.ofNat q)), (.ref a36)])) (fun _ kk => XS.lload X68.here hx rfl (hb hby at_141) rfl kk) ?_
  refine own_callV X68 hx hZ (y := (⟨"com/example/kennel/kennel/Utf8Builder", "truncate", "(J)V"⟩ : MethodName)) (b := a36) (as' := [(.long (Int64.ofNat q))]) hown (own_w hw 38 rfl) (own_w hw 39 rfl) (own_w hw 41 rfl) (own_w hw 40 rfl) (own_w hw 42 rfl) (own_w hw 4 rfl) (by decide) (own_tru l Z a0 hw [] a36 q 3 (na + nc + nd) 0 F3 T66.heap n0 V64 (by omega) (by omega) hq) (own_V_exa V64) 0 (by decide) (by decide) (by decide) (by decide) (rest := []) (by rw [hml]; rfl) (lenOf (by decide : parseMethodDescriptor "(J)V" = some ⟨[.long], none⟩) rfl) rfl (Nat.le_of_eq rfl) (hb hby at_143) rfl ?_
  intro T74 L75 v77 X76 hQ
  obtain ⟨rfl, N71', Bl73, V72⟩ := hQ
  show own_Out _ _ _ _ (T74.setTop (mkF m 146 #[.val (.int p0), .val (.long p1), .second, .val (.int p2), .val (.int p3), .val (.int p4), .val (.int p5), .val (.int (Int32.ofNat na)), .val (.int (Int32.ofNat nc)), .val (.int (Int32.ofNat nd)), .val (.ref a9), .val (.int (Int32.ofNat (na + nc + nd))), .val (.long (Int64.ofNat q)), .second, .val (.int cc), .val (.ref a36), .unset, .unset, .unset, .unset] []))
  have N71 := Fr.app N63 N71'
  have Fb78 := own_AB_bl Fb70 Bl73 hra
  refine own_st (G := T74.setTop (mkF m 148 #[.val (.int p0), .val (.long p1), .second, .val (.int p2), .val (.int p3), .val (.int p4), .val (.int p5), .val (.int (Int32.ofNat na)), .val (.int (Int32.ofNat nc)), .val (.int (Int32.ofNat nd)), .val (.ref a9), .val (.int (Int32.ofNat (na + nc + nd))), .val (.long (Int64.ofNat q)), .second, .val (.int cc), .val (.ref a36), .unset, .unset, .unset, .unset] [(.ref a36)])) (fun _ kk => XS.aload X76.here hx rfl (hb hby at_146) rfl rfl kk) ?_
  refine own_callV X76 hx hZ (y := (⟨"com/example/kennel/kennel/Utf8Builder", "length", "()J"⟩ : MethodName)) (b := a36) (as' := []) hown (own_w hw 45 rfl) (own_w hw 46 rfl) (own_w hw 48 rfl) (own_w hw 47 rfl) (own_w hw 49 rfl) (own_w hw 4 rfl) (by decide) (own_len l Z a0 hw [] a36 3 q 0 F3 T74.heap n0 V72 (by omega)) (own_V_exa V72) 0 (by decide) (by decide) (by decide) (by decide) (rest := []) (by rw [hml]; rfl) (lenOf (by decide : parseMethodDescriptor "()J" = some ⟨[], some (.long)⟩) rfl) rfl (Nat.le_of_eq rfl) (hb hby at_148) rfl ?_
  intro T83 L84 v86 X85 hQ
  obtain ⟨rfl, rfl, eq82⟩ := hQ
  show own_Out _ _ _ _ (T83.setTop (mkF m 151 #[.val (.int p0), .val (.long p1), .second, .val (.int p2), .val (.int p3), .val (.int p4), .val (.int p5), .val (.int (Int32.ofNat na)), .val (.int (Int32.ofNat nc)), .val (.int (Int32.ofNat nd)), .val (.ref a9), .val (.int (Int32.ofNat (na + nc + nd))), .val (.long (Int64.ofNat q)), .second, .val (.int cc), .val (.ref a36), .unset, .unset, .unset, .unset] [(.long (Int64.ofNat q))]))
  have N79 := Fr.app N71 (Fr.nil n0)
  refine own_st (G := T83.setTop (mkF m 153 #[.val (.int p0), .val (.long p1), .second, .val (.int p2), .val (.int p3), .val (.int p4), .val (.int p5), .val (.int (Int32.ofNat na)), .val (.int (Int32.ofNat nc)), .val (.int (Int32.ofNat nd)), .val (.ref a9), .val (.int (Int32.ofNat (na + nc + nd))), .val (.long (Int64.ofNat q)), .second, .val (.int cc), .val (.ref a36), .unset, .unset, .unset, .unset] [(.long (Int64.ofNat q)), (.long (Int64.ofNat q))])) (fun _ kk => XS.lload X85.here hx rfl (hb hby at_151) rfl kk) ?_
  refine own_st (G := T83.setTop (mkF m 154 #[.val (.int p0), .val (.long p1), .second, .val (.int p2), .val (.int p3), .val (.int p4), .val (.int p5), .val (.int (Int32.ofNat na)), .val (.int (Int32.ofNat nc)), .val (.int (Int32.ofNat nd)), .val (.ref a9), .val (.int (Int32.ofNat (na + nc + nd))), .val (.long (Int64.ofNat q)), .second, .val (.int cc), .val (.ref a36), .unset, .unset, .unset, .unset] [(.int (BdW.cmpL (Int64.ofNat q) (Int64.ofNat q)))])) (fun _ kk => XT.lcmp X85.here hx rfl (hb hby at_153) rfl kk) ?_
  have hk87 : ((Int64.ofNat q) = (Int64.ofNat q)) := rfl
  refine own_st (G := T83.setTop (mkF m 157 #[.val (.int p0), .val (.long p1), .second, .val (.int p2), .val (.int p3), .val (.int p4), .val (.int p5), .val (.int (Int32.ofNat na)), .val (.int (Int32.ofNat nc)), .val (.int (Int32.ofNat nd)), .val (.ref a9), .val (.int (Int32.ofNat (na + nc + nd))), .val (.long (Int64.ofNat q)), .second, .val (.int cc), .val (.ref a36), .unset, .unset, .unset, .unset] [])) (fun _ kk => XS.ifNo X85.here hx rfl (hb hby at_154) rfl (XT.ll_ne_f hk87) kk) ?_
  refine own_st (G := T83.setTop (mkF m 158 #[.val (.int p0), .val (.long p1), .second, .val (.int p2), .val (.int p3), .val (.int p4), .val (.int p5), .val (.int (Int32.ofNat na)), .val (.int (Int32.ofNat nc)), .val (.int (Int32.ofNat nd)), .val (.ref a9), .val (.int (Int32.ofNat (na + nc + nd))), .val (.long (Int64.ofNat q)), .second, .val (.int cc), .val (.ref a36), .unset, .unset, .unset, .unset] [(.int (1 : Int32))])) (fun _ kk => XT.iconstV X85.here hx rfl (1 : Int32) (hb hby at_157) (by decide) kk) ?_
  refine own_st (G := T83.setTop (mkF m 162 #[.val (.int p0), .val (.long p1), .second, .val (.int p2), .val (.int p3), .val (.int p4), .val (.int p5), .val (.int (Int32.ofNat na)), .val (.int (Int32.ofNat nc)), .val (.int (Int32.ofNat nd)), .val (.ref a9), .val (.int (Int32.ofNat (na + nc + nd))), .val (.long (Int64.ofNat q)), .second, .val (.int cc), .val (.ref a36), .unset, .unset, .unset, .unset] [(.int (1 : Int32))])) (fun _ kk => XS.goto X85.here hx rfl (pc0 := 158) (pc' := 162) rfl (hb hby at_158) (by decide) (by decide) kk) ?_
  refine own_st (G := T83.setTop (mkF m 164 #[.val (.int p0), .val (.long p1), .second, .val (.int p2), .val (.int p3), .val (.int p4), .val (.int p5), .val (.int (Int32.ofNat na)), .val (.int (Int32.ofNat nc)), .val (.int (Int32.ofNat nd)), .val (.ref a9), .val (.int (Int32.ofNat (na + nc + nd))), .val (.long (Int64.ofNat q)), .second, .val (.int cc), .val (.ref a36), .val (.int (1 : Int32)), .unset, .unset, .unset] [])) (fun _ kk => XS.istore X85.here hx rfl (hb hby at_162) rfl (l' := #[.val (.int p0), .val (.long p1), .second, .val (.int p2), .val (.int p3), .val (.int p4), .val (.int p5), .val (.int (Int32.ofNat na)), .val (.int (Int32.ofNat nc)), .val (.int (Int32.ofNat nd)), .val (.ref a9), .val (.int (Int32.ofNat (na + nc + nd))), .val (.long (Int64.ofNat q)), .second, .val (.int cc), .val (.ref a36), .val (.int (1 : Int32)), .unset, .unset, .unset]) rfl kk) ?_
  refine own_st (G := T83.setTop (mkF m 166 #[.val (.int p0), .val (.long p1), .second, .val (.int p2), .val (.int p3), .val (.int p4), .val (.int p5), .val (.int (Int32.ofNat na)), .val (.int (Int32.ofNat nc)), .val (.int (Int32.ofNat nd)), .val (.ref a9), .val (.int (Int32.ofNat (na + nc + nd))), .val (.long (Int64.ofNat q)), .second, .val (.int cc), .val (.ref a36), .val (.int (1 : Int32)), .unset, .unset, .unset] [(.ref a36)])) (fun _ kk => XS.aload X85.here hx rfl (hb hby at_164) rfl rfl kk) ?_
  refine own_st (G := T83.setTop (mkF m 168 #[.val (.int p0), .val (.long p1), .second, .val (.int p2), .val (.int p3), .val (.int p4), .val (.int p5), .val (.int (Int32.ofNat na)), .val (.int (Int32.ofNat nc)), .val (.int (Int32.ofNat nd)), .val (.ref a9), .val (.int (Int32.ofNat (na + nc + nd))), .val (.long (Int64.ofNat q)), .second, .val (.int cc), .val (.ref a36), .val (.int (1 : Int32)), .unset, .unset, .unset] [(.int cc), (.ref a36)])) (fun _ kk => XS.iload X85.here hx rfl (hb hby at_166) rfl kk) ?_
  refine own_callV X85 hx hZ (y := (⟨"com/example/kennel/kennel/Utf8Builder", "append", "(C)Lcom/example/kennel/kennel/Utf8Builder;"⟩ : MethodName)) (b := a36) (as' := [(.int cc)]) hown (own_w hw 50 rfl) (own_w hw 51 rfl) (own_w hw 53 rfl) (own_w hw 52 rfl) (own_w hw 54 rfl) (own_w hw 4 rfl) (by decide) (own_ap1 l Z a0 hw [] cc a36 3 q 0 F3 T74.heap n0 V72 hcc (by omega) (by omega)) (own_V_exa V72) 0 (by decide) (by decide) (by decide) (by decide) (rest := []) (by rw [hml]; rfl) (lenOf (by decide : parseMethodDescriptor "(C)Lcom/example/kennel/kennel/Utf8Builder;" = some ⟨[.char], some (.object "com/example/kennel/kennel/Utf8Builder")⟩) rfl) rfl (Nat.le_of_eq rfl) (hb hby at_168) eq82 ?_
  intro T91 L92 v94 X93 hQ
  obtain ⟨rfl, N88', Bl90, V89⟩ := hQ
  show own_Out _ _ _ _ (T91.setTop (mkF m 171 #[.val (.int p0), .val (.long p1), .second, .val (.int p2), .val (.int p3), .val (.int p4), .val (.int p5), .val (.int (Int32.ofNat na)), .val (.int (Int32.ofNat nc)), .val (.int (Int32.ofNat nd)), .val (.ref a9), .val (.int (Int32.ofNat (na + nc + nd))), .val (.long (Int64.ofNat q)), .second, .val (.int cc), .val (.ref a36), .val (.int (1 : Int32)), .unset, .unset, .unset] [(.ref a36)]))
  have N88 := Fr.app N79 N88'
  have Fb95 := own_AB_bl Fb78 Bl90 hra
  obtain ⟨F4, hF4⟩ : ∃ f : Nat → Int32, f = fun p => if p < q then F3 p else nar .byte cc.toInt8.toInt32 := ⟨_, rfl⟩
  rw [← hF4] at V89
  refine own_st (G := T91.setTop (mkF m 172 #[.val (.int p0), .val (.long p1), .second, .val (.int p2), .val (.int p3), .val (.int p4), .val (.int p5), .val (.int (Int32.ofNat na)), .val (.int (Int32.ofNat nc)), .val (.int (Int32.ofNat nd)), .val (.ref a9), .val (.int (Int32.ofNat (na + nc + nd))), .val (.long (Int64.ofNat q)), .second, .val (.int cc), .val (.ref a36), .val (.int (1 : Int32)), .unset, .unset, .unset] [])) (fun _ kk => XS.pop X93.here hx rfl (hb hby at_171) rfl rfl kk) ?_
  refine own_st (G := T91.setTop (mkF m 174 #[.val (.int p0), .val (.long p1), .second, .val (.int p2), .val (.int p3), .val (.int p4), .val (.int p5), .val (.int (Int32.ofNat na)), .val (.int (Int32.ofNat nc)), .val (.int (Int32.ofNat nd)), .val (.ref a9), .val (.int (Int32.ofNat (na + nc + nd))), .val (.long (Int64.ofNat q)), .second, .val (.int cc), .val (.ref a36), .val (.int (1 : Int32)), .unset, .unset, .unset] [(.int (1 : Int32))])) (fun _ kk => XS.iload X93.here hx rfl (hb hby at_172) rfl kk) ?_
  refine own_st (G := T91.setTop (mkF m 177 #[.val (.int p0), .val (.long p1), .second, .val (.int p2), .val (.int p3), .val (.int p4), .val (.int p5), .val (.int (Int32.ofNat na)), .val (.int (Int32.ofNat nc)), .val (.int (Int32.ofNat nd)), .val (.ref a9), .val (.int (Int32.ofNat (na + nc + nd))), .val (.long (Int64.ofNat q)), .second, .val (.int cc), .val (.ref a36), .val (.int (1 : Int32)), .unset, .unset, .unset] [])) (fun _ kk => XS.ifNo X93.here hx rfl (hb hby at_174) rfl (XT.i0_eq_f (by decide : ¬ (1 : Int32) = (0 : Int32))) kk) ?_
  refine own_st (G := T91.setTop (mkF m 179 #[.val (.int p0), .val (.long p1), .second, .val (.int p2), .val (.int p3), .val (.int p4), .val (.int p5), .val (.int (Int32.ofNat na)), .val (.int (Int32.ofNat nc)), .val (.int (Int32.ofNat nd)), .val (.ref a9), .val (.int (Int32.ofNat (na + nc + nd))), .val (.long (Int64.ofNat q)), .second, .val (.int cc), .val (.ref a36), .val (.int (1 : Int32)), .unset, .unset, .unset] [(.ref a36)])) (fun _ kk => XS.aload X93.here hx rfl (hb hby at_177) rfl rfl kk) ?_
  refine own_callV X93 hx hZ (y := (⟨"com/example/kennel/kennel/Utf8Builder", "length", "()J"⟩ : MethodName)) (b := a36) (as' := []) hown (own_w hw 45 rfl) (own_w hw 46 rfl) (own_w hw 48 rfl) (own_w hw 47 rfl) (own_w hw 49 rfl) (own_w hw 4 rfl) (by decide) (own_len l Z a0 hw [] a36 4 (q + 1) 0 F4 T91.heap n0 V89 (by omega)) (own_V_exa V89) 0 (by decide) (by decide) (by decide) (by decide) (rest := []) (by rw [hml]; rfl) (lenOf (by decide : parseMethodDescriptor "()J" = some ⟨[], some (.long)⟩) rfl) rfl (Nat.le_of_eq rfl) (hb hby at_179) rfl ?_
  intro T100 L101 v103 X102 hQ
  obtain ⟨rfl, rfl, eq99⟩ := hQ
  show own_Out _ _ _ _ (T100.setTop (mkF m 182 #[.val (.int p0), .val (.long p1), .second, .val (.int p2), .val (.int p3), .val (.int p4), .val (.int p5), .val (.int (Int32.ofNat na)), .val (.int (Int32.ofNat nc)), .val (.int (Int32.ofNat nd)), .val (.ref a9), .val (.int (Int32.ofNat (na + nc + nd))), .val (.long (Int64.ofNat q)), .second, .val (.int cc), .val (.ref a36), .val (.int (1 : Int32)), .unset, .unset, .unset] [(.long (Int64.ofNat (q + 1)))]))
  have N96 := Fr.app N88 (Fr.nil n0)
  refine own_st (G := T100.setTop (mkF m 184 #[.val (.int p0), .val (.long p1), .second, .val (.int p2), .val (.int p3), .val (.int p4), .val (.int p5), .val (.int (Int32.ofNat na)), .val (.int (Int32.ofNat nc)), .val (.int (Int32.ofNat nd)), .val (.ref a9), .val (.int (Int32.ofNat (na + nc + nd))), .val (.long (Int64.ofNat q)), .second, .val (.int cc), .val (.ref a36), .val (.int (1 : Int32)), .unset, .unset, .unset] [(.long (Int64.ofNat q)), (.long (Int64.ofNat (q + 1)))])) (fun _ kk => XS.lload X102.here hx rfl (hb hby at_182) rfl kk) ?_
  refine own_st (G := T100.setTop (mkF m 185 #[.val (.int p0), .val (.long p1), .second, .val (.int p2), .val (.int p3), .val (.int p4), .val (.int p5), .val (.int (Int32.ofNat na)), .val (.int (Int32.ofNat nc)), .val (.int (Int32.ofNat nd)), .val (.ref a9), .val (.int (Int32.ofNat (na + nc + nd))), .val (.long (Int64.ofNat q)), .second, .val (.int cc), .val (.ref a36), .val (.int (1 : Int32)), .unset, .unset, .unset] [(.long (1 : Int64)), (.long (Int64.ofNat q)), (.long (Int64.ofNat (q + 1)))])) (fun _ kk => XT.lconstV X102.here hx rfl (1 : Int64) (hb hby at_184) (by decide) kk) ?_
  refine own_st (G := T100.setTop (mkF m 186 #[.val (.int p0), .val (.long p1), .second, .val (.int p2), .val (.int p3), .val (.int p4), .val (.int p5), .val (.int (Int32.ofNat na)), .val (.int (Int32.ofNat nc)), .val (.int (Int32.ofNat nd)), .val (.ref a9), .val (.int (Int32.ofNat (na + nc + nd))), .val (.long (Int64.ofNat q)), .second, .val (.int cc), .val (.ref a36), .val (.int (1 : Int32)), .unset, .unset, .unset] [(.long ((Int64.ofNat q) + (1 : Int64))), (.long (Int64.ofNat (q + 1)))])) (fun _ kk => XS.ladd X102.here hx rfl (hb hby at_185) rfl kk) ?_
  rw [show ((Int64.ofNat q) + (1 : Int64)) = (Int64.ofNat (q + 1)) from own_addJ (y := 1) (by omega)]
  refine own_st (G := T100.setTop (mkF m 187 #[.val (.int p0), .val (.long p1), .second, .val (.int p2), .val (.int p3), .val (.int p4), .val (.int p5), .val (.int (Int32.ofNat na)), .val (.int (Int32.ofNat nc)), .val (.int (Int32.ofNat nd)), .val (.ref a9), .val (.int (Int32.ofNat (na + nc + nd))), .val (.long (Int64.ofNat q)), .second, .val (.int cc), .val (.ref a36), .val (.int (1 : Int32)), .unset, .unset, .unset] [(.int (BdW.cmpL (Int64.ofNat (q + 1)) (Int64.ofNat (q + 1))))])) (fun _ kk => XT.lcmp X102.here hx rfl (hb hby at_186) rfl kk) ?_
  have hk104 : ((Int64.ofNat (q + 1)) = (Int64.ofNat (q + 1))) := rfl
  refine own_st (G := T100.setTop (mkF m 190 #[.val (.int p0), .val (.long p1), .second, .val (.int p2), .val (.int p3), .val (.int p4), .val (.int p5), .val (.int (Int32.ofNat na)), .val (.int (Int32.ofNat nc)), .val (.int (Int32.ofNat nd)), .val (.ref a9), .val (.int (Int32.ofNat (na + nc + nd))), .val (.long (Int64.ofNat q)), .second, .val (.int cc), .val (.ref a36), .val (.int (1 : Int32)), .unset, .unset, .unset] [])) (fun _ kk => XS.ifNo X102.here hx rfl (hb hby at_187) rfl (XT.ll_ne_f hk104) kk) ?_
  refine own_st (G := T100.setTop (mkF m 191 #[.val (.int p0), .val (.long p1), .second, .val (.int p2), .val (.int p3), .val (.int p4), .val (.int p5), .val (.int (Int32.ofNat na)), .val (.int (Int32.ofNat nc)), .val (.int (Int32.ofNat nd)), .val (.ref a9), .val (.int (Int32.ofNat (na + nc + nd))), .val (.long (Int64.ofNat q)), .second, .val (.int cc), .val (.ref a36), .val (.int (1 : Int32)), .unset, .unset, .unset] [(.int (1 : Int32))])) (fun _ kk => XT.iconstV X102.here hx rfl (1 : Int32) (hb hby at_190) (by decide) kk) ?_
  refine own_st (G := T100.setTop (mkF m 195 #[.val (.int p0), .val (.long p1), .second, .val (.int p2), .val (.int p3), .val (.int p4), .val (.int p5), .val (.int (Int32.ofNat na)), .val (.int (Int32.ofNat nc)), .val (.int (Int32.ofNat nd)), .val (.ref a9), .val (.int (Int32.ofNat (na + nc + nd))), .val (.long (Int64.ofNat q)), .second, .val (.int cc), .val (.ref a36), .val (.int (1 : Int32)), .unset, .unset, .unset] [(.int (1 : Int32))])) (fun _ kk => XS.goto X102.here hx rfl (pc0 := 191) (pc' := 195) rfl (hb hby at_191) (by decide) (by decide) kk) ?_
  refine own_st (G := T100.setTop (mkF m 197 #[.val (.int p0), .val (.long p1), .second, .val (.int p2), .val (.int p3), .val (.int p4), .val (.int p5), .val (.int (Int32.ofNat na)), .val (.int (Int32.ofNat nc)), .val (.int (Int32.ofNat nd)), .val (.ref a9), .val (.int (Int32.ofNat (na + nc + nd))), .val (.long (Int64.ofNat q)), .second, .val (.int cc), .val (.ref a36), .val (.int (1 : Int32)), .unset, .unset, .unset] [])) (fun _ kk => XS.istore X102.here hx rfl (hb hby at_195) rfl (l' := #[.val (.int p0), .val (.long p1), .second, .val (.int p2), .val (.int p3), .val (.int p4), .val (.int p5), .val (.int (Int32.ofNat na)), .val (.int (Int32.ofNat nc)), .val (.int (Int32.ofNat nd)), .val (.ref a9), .val (.int (Int32.ofNat (na + nc + nd))), .val (.long (Int64.ofNat q)), .second, .val (.int cc), .val (.ref a36), .val (.int (1 : Int32)), .unset, .unset, .unset]) rfl kk) ?_
  refine own_st (G := T100.setTop (mkF m 199 #[.val (.int p0), .val (.long p1), .second, .val (.int p2), .val (.int p3), .val (.int p4), .val (.int p5), .val (.int (Int32.ofNat na)), .val (.int (Int32.ofNat nc)), .val (.int (Int32.ofNat nd)), .val (.ref a9), .val (.int (Int32.ofNat (na + nc + nd))), .val (.long (Int64.ofNat q)), .second, .val (.int cc), .val (.ref a36), .val (.int (1 : Int32)), .unset, .unset, .unset] [(.ref a36)])) (fun _ kk => XS.aload X102.here hx rfl (hb hby at_197) rfl rfl kk) ?_
  refine own_callV X102 hx hZ (y := (⟨"com/example/kennel/kennel/Utf8Builder", "toByteArray", "()[B"⟩ : MethodName)) (b := a36) (as' := []) hown (own_w hw 55 rfl) (own_w hw 56 rfl) (own_w hw 58 rfl) (own_w hw 57 rfl) (own_w hw 59 rfl) (own_w hw 4 rfl) (by decide) (own_tba l Z a0 hw [] a36 4 (q + 1) 0 F4 T91.heap n0 V89 (by omega) (by omega)) (own_V_exa V89) 0 (by decide) (by decide) (by decide) (by decide) (rest := []) (by rw [hml]; rfl) (lenOf (by decide : parseMethodDescriptor "()[B" = some ⟨[], some (.array (.byte))⟩) rfl) rfl (Nat.le_of_eq rfl) (hb hby at_199) eq99 ?_
  intro T112 L113 v115 X114 hQ
  obtain ⟨o108, rfl, N105', E109, g110, F111⟩ := hQ
  show own_Out _ _ _ _ (T112.setTop (mkF m 202 #[.val (.int p0), .val (.long p1), .second, .val (.int p2), .val (.int p3), .val (.int p4), .val (.int p5), .val (.int (Int32.ofNat na)), .val (.int (Int32.ofNat nc)), .val (.int (Int32.ofNat nd)), .val (.ref a9), .val (.int (Int32.ofNat (na + nc + nd))), .val (.long (Int64.ofNat q)), .second, .val (.int cc), .val (.ref a36), .val (.int (1 : Int32)), .unset, .unset, .unset] [(.ref o108)]))
  have N105 := Fr.app N96 N105'
  have Fb116 := own_AB_ext Fb95 E109
  refine own_st (G := T112.setTop (mkF m 204 #[.val (.int p0), .val (.long p1), .second, .val (.int p2), .val (.int p3), .val (.int p4), .val (.int p5), .val (.int (Int32.ofNat na)), .val (.int (Int32.ofNat nc)), .val (.int (Int32.ofNat nd)), .val (.ref a9), .val (.int (Int32.ofNat (na + nc + nd))), .val (.long (Int64.ofNat q)), .second, .val (.int cc), .val (.ref a36), .val (.int (1 : Int32)), .val (.ref o108), .unset, .unset] [])) (fun _ kk => XS.astore X114.here hx rfl (hb hby at_202) rfl rfl (l' := #[.val (.int p0), .val (.long p1), .second, .val (.int p2), .val (.int p3), .val (.int p4), .val (.int p5), .val (.int (Int32.ofNat na)), .val (.int (Int32.ofNat nc)), .val (.int (Int32.ofNat nd)), .val (.ref a9), .val (.int (Int32.ofNat (na + nc + nd))), .val (.long (Int64.ofNat q)), .second, .val (.int cc), .val (.ref a36), .val (.int (1 : Int32)), .val (.ref o108), .unset, .unset]) rfl kk) ?_
  refine own_st (G := T112.setTop (mkF m 206 #[.val (.int p0), .val (.long p1), .second, .val (.int p2), .val (.int p3), .val (.int p4), .val (.int p5), .val (.int (Int32.ofNat na)), .val (.int (Int32.ofNat nc)), .val (.int (Int32.ofNat nd)), .val (.ref a9), .val (.int (Int32.ofNat (na + nc + nd))), .val (.long (Int64.ofNat q)), .second, .val (.int cc), .val (.ref a36), .val (.int (1 : Int32)), .val (.ref o108), .unset, .unset] [(.long (Int64.ofNat q))])) (fun _ kk => XS.lload X114.here hx rfl (hb hby at_204) rfl kk) ?_
  refine own_st (G := T112.setTop (mkF m 207 #[.val (.int p0), .val (.long p1), .second, .val (.int p2), .val (.int p3), .val (.int p4), .val (.int p5), .val (.int (Int32.ofNat na)), .val (.int (Int32.ofNat nc)), .val (.int (Int32.ofNat nd)), .val (.ref a9), .val (.int (Int32.ofNat (na + nc + nd))), .val (.long (Int64.ofNat q)), .second, .val (.int cc), .val (.ref a36), .val (.int (1 : Int32)), .val (.ref o108), .unset, .unset] [(.int (Int64.ofNat q).toInt32)])) (fun _ kk => XS.l2i X114.here hx rfl (hb hby at_206) rfl kk) ?_
  rw [show (Int64.ofNat q).toInt32 = (Int32.ofNat q) from own_i32 (by omega)]
  refine own_st (G := T112.setTop (mkF m 209 #[.val (.int p0), .val (.long p1), .second, .val (.int p2), .val (.int p3), .val (.int p4), .val (.int p5), .val (.int (Int32.ofNat na)), .val (.int (Int32.ofNat nc)), .val (.int (Int32.ofNat nd)), .val (.ref a9), .val (.int (Int32.ofNat (na + nc + nd))), .val (.long (Int64.ofNat q)), .second, .val (.int cc), .val (.ref a36), .val (.int (1 : Int32)), .val (.ref o108), .val (.int (Int32.ofNat q)), .unset] [])) (fun _ kk => XS.istore X114.here hx rfl (hb hby at_207) rfl (l' := #[.val (.int p0), .val (.long p1), .second, .val (.int p2), .val (.int p3), .val (.int p4), .val (.int p5), .val (.int (Int32.ofNat na)), .val (.int (Int32.ofNat nc)), .val (.int (Int32.ofNat nd)), .val (.ref a9), .val (.int (Int32.ofNat (na + nc + nd))), .val (.long (Int64.ofNat q)), .second, .val (.int cc), .val (.ref a36), .val (.int (1 : Int32)), .val (.ref o108), .val (.int (Int32.ofNat q)), .unset]) rfl kk) ?_
  refine own_st (G := T112.setTop (mkF m 211 #[.val (.int p0), .val (.long p1), .second, .val (.int p2), .val (.int p3), .val (.int p4), .val (.int p5), .val (.int (Int32.ofNat na)), .val (.int (Int32.ofNat nc)), .val (.int (Int32.ofNat nd)), .val (.ref a9), .val (.int (Int32.ofNat (na + nc + nd))), .val (.long (Int64.ofNat q)), .second, .val (.int cc), .val (.ref a36), .val (.int (1 : Int32)), .val (.ref o108), .val (.int (Int32.ofNat q)), .unset] [(.ref o108)])) (fun _ kk => XS.aload X114.here hx rfl (hb hby at_209) rfl rfl kk) ?_
  refine own_lenB X114 hx hZ rfl F111 (z := (Int32.ofNat (q + 1))) rfl (hb hby at_211) ?_
  show own_Out _ _ _ _ (T112.setTop (mkF m 212 #[.val (.int p0), .val (.long p1), .second, .val (.int p2), .val (.int p3), .val (.int p4), .val (.int p5), .val (.int (Int32.ofNat na)), .val (.int (Int32.ofNat nc)), .val (.int (Int32.ofNat nd)), .val (.ref a9), .val (.int (Int32.ofNat (na + nc + nd))), .val (.long (Int64.ofNat q)), .second, .val (.int cc), .val (.ref a36), .val (.int (1 : Int32)), .val (.ref o108), .val (.int (Int32.ofNat q)), .unset] [(.int (Int32.ofNat (q + 1)))]))
  refine own_st (G := T112.setTop (mkF m 214 #[.val (.int p0), .val (.long p1), .second, .val (.int p2), .val (.int p3), .val (.int p4), .val (.int p5), .val (.int (Int32.ofNat na)), .val (.int (Int32.ofNat nc)), .val (.int (Int32.ofNat nd)), .val (.ref a9), .val (.int (Int32.ofNat (na + nc + nd))), .val (.long (Int64.ofNat q)), .second, .val (.int cc), .val (.ref a36), .val (.int (1 : Int32)), .val (.ref o108), .val (.int (Int32.ofNat q)), .unset] [(.int (Int32.ofNat q)), (.int (Int32.ofNat (q + 1)))])) (fun _ kk => XS.iload X114.here hx rfl (hb hby at_212) rfl kk) ?_
  refine own_st (G := T112.setTop (mkF m 215 #[.val (.int p0), .val (.long p1), .second, .val (.int p2), .val (.int p3), .val (.int p4), .val (.int p5), .val (.int (Int32.ofNat na)), .val (.int (Int32.ofNat nc)), .val (.int (Int32.ofNat nd)), .val (.ref a9), .val (.int (Int32.ofNat (na + nc + nd))), .val (.long (Int64.ofNat q)), .second, .val (.int cc), .val (.ref a36), .val (.int (1 : Int32)), .val (.ref o108), .val (.int (Int32.ofNat q)), .unset] [(.int (1 : Int32)), (.int (Int32.ofNat q)), (.int (Int32.ofNat (q + 1)))])) (fun _ kk => XT.iconstV X114.here hx rfl (1 : Int32) (hb hby at_214) (by decide) kk) ?_
  refine own_st (G := T112.setTop (mkF m 216 #[.val (.int p0), .val (.long p1), .second, .val (.int p2), .val (.int p3), .val (.int p4), .val (.int p5), .val (.int (Int32.ofNat na)), .val (.int (Int32.ofNat nc)), .val (.int (Int32.ofNat nd)), .val (.ref a9), .val (.int (Int32.ofNat (na + nc + nd))), .val (.long (Int64.ofNat q)), .second, .val (.int cc), .val (.ref a36), .val (.int (1 : Int32)), .val (.ref o108), .val (.int (Int32.ofNat q)), .unset] [(.int ((Int32.ofNat q) + (1 : Int32))), (.int (Int32.ofNat (q + 1)))])) (fun _ kk => XS.iadd X114.here hx rfl (hb hby at_215) rfl kk) ?_
  rw [show ((Int32.ofNat q) + (1 : Int32)) = (Int32.ofNat (q + 1)) from own_addI (y := 1) (by omega)]
  have hk117 : ((Int32.ofNat (q + 1)) = (Int32.ofNat (q + 1))) := rfl
  refine own_st (G := T112.setTop (mkF m 221 #[.val (.int p0), .val (.long p1), .second, .val (.int p2), .val (.int p3), .val (.int p4), .val (.int p5), .val (.int (Int32.ofNat na)), .val (.int (Int32.ofNat nc)), .val (.int (Int32.ofNat nd)), .val (.ref a9), .val (.int (Int32.ofNat (na + nc + nd))), .val (.long (Int64.ofNat q)), .second, .val (.int cc), .val (.ref a36), .val (.int (1 : Int32)), .val (.ref o108), .val (.int (Int32.ofNat q)), .unset] [])) (fun _ kk => XS.icmpYes X114.here hx rfl (pc0 := 216) (pc' := 221) rfl (hb hby at_216) rfl (XT.ii_eq_t hk117) (by decide) (by decide) kk) ?_
  refine own_st (G := T112.setTop (mkF m 223 #[.val (.int p0), .val (.long p1), .second, .val (.int p2), .val (.int p3), .val (.int p4), .val (.int p5), .val (.int (Int32.ofNat na)), .val (.int (Int32.ofNat nc)), .val (.int (Int32.ofNat nd)), .val (.ref a9), .val (.int (Int32.ofNat (na + nc + nd))), .val (.long (Int64.ofNat q)), .second, .val (.int cc), .val (.ref a36), .val (.int (1 : Int32)), .val (.ref o108), .val (.int (Int32.ofNat q)), .unset] [(.int (1 : Int32))])) (fun _ kk => XS.iload X114.here hx rfl (hb hby at_221) rfl kk) ?_
  refine own_st (G := T112.setTop (mkF m 226 #[.val (.int p0), .val (.long p1), .second, .val (.int p2), .val (.int p3), .val (.int p4), .val (.int p5), .val (.int (Int32.ofNat na)), .val (.int (Int32.ofNat nc)), .val (.int (Int32.ofNat nd)), .val (.ref a9), .val (.int (Int32.ofNat (na + nc + nd))), .val (.long (Int64.ofNat q)), .second, .val (.int cc), .val (.ref a36), .val (.int (1 : Int32)), .val (.ref o108), .val (.int (Int32.ofNat q)), .unset] [])) (fun _ kk => XS.ifNo X114.here hx rfl (hb hby at_223) rfl (XT.i0_eq_f (by decide : ¬ (1 : Int32) = (0 : Int32))) kk) ?_
  refine own_st (G := T112.setTop (mkF m 228 #[.val (.int p0), .val (.long p1), .second, .val (.int p2), .val (.int p3), .val (.int p4), .val (.int p5), .val (.int (Int32.ofNat na)), .val (.int (Int32.ofNat nc)), .val (.int (Int32.ofNat nd)), .val (.ref a9), .val (.int (Int32.ofNat (na + nc + nd))), .val (.long (Int64.ofNat q)), .second, .val (.int cc), .val (.ref a36), .val (.int (1 : Int32)), .val (.ref o108), .val (.int (Int32.ofNat q)), .unset] [(.ref o108)])) (fun _ kk => XS.aload X114.here hx rfl (hb hby at_226) rfl rfl kk) ?_
  refine own_st (G := T112.setTop (mkF m 230 #[.val (.int p0), .val (.long p1), .second, .val (.int p2), .val (.int p3), .val (.int p4), .val (.int p5), .val (.int (Int32.ofNat na)), .val (.int (Int32.ofNat nc)), .val (.int (Int32.ofNat nd)), .val (.ref a9), .val (.int (Int32.ofNat (na + nc + nd))), .val (.long (Int64.ofNat q)), .second, .val (.int cc), .val (.ref a36), .val (.int (1 : Int32)), .val (.ref o108), .val (.int (Int32.ofNat q)), .unset] [(.int (Int32.ofNat q)), (.ref o108)])) (fun _ kk => XS.iload X114.here hx rfl (hb hby at_228) rfl kk) ?_
  refine own_baload X114 hx hZ rfl F111 (j := (Int32.ofNat q)) (i := q) (own_ixn (n := q) (by omega)).1 (own_ixn (n := q) (by omega)).2 (by omega) (hb hby at_230) ?_
  show own_Out _ _ _ _ (T112.setTop (mkF m 231 #[.val (.int p0), .val (.long p1), .second, .val (.int p2), .val (.int p3), .val (.int p4), .val (.int p5), .val (.int (Int32.ofNat na)), .val (.int (Int32.ofNat nc)), .val (.int (Int32.ofNat nd)), .val (.ref a9), .val (.int (Int32.ofNat (na + nc + nd))), .val (.long (Int64.ofNat q)), .second, .val (.int cc), .val (.ref a36), .val (.int (1 : Int32)), .val (.ref o108), .val (.int (Int32.ofNat q)), .unset] [(.int (F4 q))]))
  refine own_st (G := T112.setTop (mkF m 233 #[.val (.int p0), .val (.long p1), .second, .val (.int p2), .val (.int p3), .val (.int p4), .val (.int p5), .val (.int (Int32.ofNat na)), .val (.int (Int32.ofNat nc)), .val (.int (Int32.ofNat nd)), .val (.ref a9), .val (.int (Int32.ofNat (na + nc + nd))), .val (.long (Int64.ofNat q)), .second, .val (.int cc), .val (.ref a36), .val (.int (1 : Int32)), .val (.ref o108), .val (.int (Int32.ofNat q)), .unset] [(.int cc), (.int (F4 q))])) (fun _ kk => XS.iload X114.here hx rfl (hb hby at_231) rfl kk) ?_
  refine own_st (G := T112.setTop (mkF m 234 #[.val (.int p0), .val (.long p1), .second, .val (.int p2), .val (.int p3), .val (.int p4), .val (.int p5), .val (.int (Int32.ofNat na)), .val (.int (Int32.ofNat nc)), .val (.int (Int32.ofNat nd)), .val (.ref a9), .val (.int (Int32.ofNat (na + nc + nd))), .val (.long (Int64.ofNat q)), .second, .val (.int cc), .val (.ref a36), .val (.int (1 : Int32)), .val (.ref o108), .val (.int (Int32.ofNat q)), .unset] [(.int cc.toInt8.toInt32), (.int (F4 q))])) (fun _ kk => XS.i2b X114.here hx rfl (hb hby at_233) rfl kk) ?_
  have hk118 : ((F4 q) = cc.toInt8.toInt32) := (by rw [hF4]; exact (if_neg (Nat.lt_irrefl q)).trans (own_narb cc))
  refine own_st (G := T112.setTop (mkF m 237 #[.val (.int p0), .val (.long p1), .second, .val (.int p2), .val (.int p3), .val (.int p4), .val (.int p5), .val (.int (Int32.ofNat na)), .val (.int (Int32.ofNat nc)), .val (.int (Int32.ofNat nd)), .val (.ref a9), .val (.int (Int32.ofNat (na + nc + nd))), .val (.long (Int64.ofNat q)), .second, .val (.int cc), .val (.ref a36), .val (.int (1 : Int32)), .val (.ref o108), .val (.int (Int32.ofNat q)), .unset] [])) (fun _ kk => XS.icmpNo X114.here hx rfl (hb hby at_234) rfl (XT.ii_ne_f hk118) kk) ?_
  refine own_st (G := T112.setTop (mkF m 238 #[.val (.int p0), .val (.long p1), .second, .val (.int p2), .val (.int p3), .val (.int p4), .val (.int p5), .val (.int (Int32.ofNat na)), .val (.int (Int32.ofNat nc)), .val (.int (Int32.ofNat nd)), .val (.ref a9), .val (.int (Int32.ofNat (na + nc + nd))), .val (.long (Int64.ofNat q)), .second, .val (.int cc), .val (.ref a36), .val (.int (1 : Int32)), .val (.ref o108), .val (.int (Int32.ofNat q)), .unset] [(.int (1 : Int32))])) (fun _ kk => XT.iconstV X114.here hx rfl (1 : Int32) (hb hby at_237) (by decide) kk) ?_
  refine own_st (G := T112.setTop (mkF m 242 #[.val (.int p0), .val (.long p1), .second, .val (.int p2), .val (.int p3), .val (.int p4), .val (.int p5), .val (.int (Int32.ofNat na)), .val (.int (Int32.ofNat nc)), .val (.int (Int32.ofNat nd)), .val (.ref a9), .val (.int (Int32.ofNat (na + nc + nd))), .val (.long (Int64.ofNat q)), .second, .val (.int cc), .val (.ref a36), .val (.int (1 : Int32)), .val (.ref o108), .val (.int (Int32.ofNat q)), .unset] [(.int (1 : Int32))])) (fun _ kk => XS.goto X114.here hx rfl (pc0 := 238) (pc' := 242) rfl (hb hby at_238) (by decide) (by decide) kk) ?_
  refine own_st (G := T112.setTop (mkF m 244 #[.val (.int p0), .val (.long p1), .second, .val (.int p2), .val (.int p3), .val (.int p4), .val (.int p5), .val (.int (Int32.ofNat na)), .val (.int (Int32.ofNat nc)), .val (.int (Int32.ofNat nd)), .val (.ref a9), .val (.int (Int32.ofNat (na + nc + nd))), .val (.long (Int64.ofNat q)), .second, .val (.int cc), .val (.ref a36), .val (.int (1 : Int32)), .val (.ref o108), .val (.int (Int32.ofNat q)), .unset] [])) (fun _ kk => XS.istore X114.here hx rfl (hb hby at_242) rfl (l' := #[.val (.int p0), .val (.long p1), .second, .val (.int p2), .val (.int p3), .val (.int p4), .val (.int p5), .val (.int (Int32.ofNat na)), .val (.int (Int32.ofNat nc)), .val (.int (Int32.ofNat nd)), .val (.ref a9), .val (.int (Int32.ofNat (na + nc + nd))), .val (.long (Int64.ofNat q)), .second, .val (.int cc), .val (.ref a36), .val (.int (1 : Int32)), .val (.ref o108), .val (.int (Int32.ofNat q)), .unset]) rfl kk) ?_
  refine own_st (G := T112.setTop (mkF m 246 #[.val (.int p0), .val (.long p1), .second, .val (.int p2), .val (.int p3), .val (.int p4), .val (.int p5), .val (.int (Int32.ofNat na)), .val (.int (Int32.ofNat nc)), .val (.int (Int32.ofNat nd)), .val (.ref a9), .val (.int (Int32.ofNat (na + nc + nd))), .val (.long (Int64.ofNat q)), .second, .val (.int cc), .val (.ref a36), .val (.int (1 : Int32)), .val (.ref o108), .val (.int (Int32.ofNat q)), .unset] [(.int (Int32.ofNat q))])) (fun _ kk => XS.iload X114.here hx rfl (hb hby at_244) rfl kk) ?_
  by_cases hc119 : (0 : Int32) < (Int32.ofNat q)
  · skip
    refine own_st (G := T112.setTop (mkF m 249 #[.val (.int p0), .val (.long p1), .second, .val (.int p2), .val (.int p3), .val (.int p4), .val (.int p5), .val (.int (Int32.ofNat na)), .val (.int (Int32.ofNat nc)), .val (.int (Int32.ofNat nd)), .val (.ref a9), .val (.int (Int32.ofNat (na + nc + nd))), .val (.long (Int64.ofNat q)), .second, .val (.int cc), .val (.ref a36), .val (.int (1 : Int32)), .val (.ref o108), .val (.int (Int32.ofNat q)), .unset] [])) (fun _ kk => XS.ifNo X114.here hx rfl (hb hby at_246) rfl (XT.i0_le_f hc119) kk) ?_
    refine own_st (G := T112.setTop (mkF m 250 #[.val (.int p0), .val (.long p1), .second, .val (.int p2), .val (.int p3), .val (.int p4), .val (.int p5), .val (.int (Int32.ofNat na)), .val (.int (Int32.ofNat nc)), .val (.int (Int32.ofNat nd)), .val (.ref a9), .val (.int (Int32.ofNat (na + nc + nd))), .val (.long (Int64.ofNat q)), .second, .val (.int cc), .val (.ref a36), .val (.int (1 : Int32)), .val (.ref o108), .val (.int (Int32.ofNat q)), .unset] [(.int p2)])) (fun _ kk => XS.iloadN X114.here hx rfl (hb hby at_249) rfl kk) ?_
    refine own_st (G := T112.setTop (mkF m 252 #[.val (.int p0), .val (.long p1), .second, .val (.int p2), .val (.int p3), .val (.int p4), .val (.int p5), .val (.int (Int32.ofNat na)), .val (.int (Int32.ofNat nc)), .val (.int (Int32.ofNat nd)), .val (.ref a9), .val (.int (Int32.ofNat (na + nc + nd))), .val (.long (Int64.ofNat q)), .second, .val (.int cc), .val (.ref a36), .val (.int (1 : Int32)), .val (.ref o108), .val (.int (Int32.ofNat q)), .unset] [(.int (2147483647 : Int32)), (.int p2)])) (fun _ kk => X114.ldcInt hx hown (mvT hZ (own_w hw 81 rfl)) (g := (mkF m 250 #[.val (.int p0), .val (.long p1), .second, .val (.int p2), .val (.int p3), .val (.int p4), .val (.int p5), .val (.int (Int32.ofNat na)), .val (.int (Int32.ofNat nc)), .val (.int (Int32.ofNat nd)), .val (.ref a9), .val (.int (Int32.ofNat (na + nc + nd))), .val (.long (Int64.ofNat q)), .second, .val (.int cc), .val (.ref a36), .val (.int (1 : Int32)), .val (.ref o108), .val (.int (Int32.ofNat q)), .unset] [(.int p2)])) rfl (hb hby at_250) _ kk) ?_
    refine own_st (G := T112.setTop (mkF m 253 #[.val (.int p0), .val (.long p1), .second, .val (.int p2), .val (.int p3), .val (.int p4), .val (.int p5), .val (.int (Int32.ofNat na)), .val (.int (Int32.ofNat nc)), .val (.int (Int32.ofNat nd)), .val (.ref a9), .val (.int (Int32.ofNat (na + nc + nd))), .val (.long (Int64.ofNat q)), .second, .val (.int cc), .val (.ref a36), .val (.int (1 : Int32)), .val (.ref o108), .val (.int (Int32.ofNat q)), .unset] [(.int (p2 &&& (2147483647 : Int32)))])) (fun _ kk => XS.iand X114.here hx rfl (hb hby at_252) rfl kk) ?_
    refine own_st (G := T112.setTop (mkF m 255 #[.val (.int p0), .val (.long p1), .second, .val (.int p2), .val (.int p3), .val (.int p4), .val (.int p5), .val (.int (Int32.ofNat na)), .val (.int (Int32.ofNat nc)), .val (.int (Int32.ofNat nd)), .val (.ref a9), .val (.int (Int32.ofNat (na + nc + nd))), .val (.long (Int64.ofNat q)), .second, .val (.int cc), .val (.ref a36), .val (.int (1 : Int32)), .val (.ref o108), .val (.int (Int32.ofNat q)), .unset] [(.int (Int32.ofNat q)), (.int (p2 &&& (2147483647 : Int32)))])) (fun _ kk => XS.iload X114.here hx rfl (hb hby at_253) rfl kk) ?_
    have hq0 : 0 < q := (own_pos (x := q) (by omega)).2.mp hc119
    refine own_st (G := T112.setTop (mkF m 256 #[.val (.int p0), .val (.long p1), .second, .val (.int p2), .val (.int p3), .val (.int p4), .val (.int p5), .val (.int (Int32.ofNat na)), .val (.int (Int32.ofNat nc)), .val (.int (Int32.ofNat nd)), .val (.ref a9), .val (.int (Int32.ofNat (na + nc + nd))), .val (.long (Int64.ofNat q)), .second, .val (.int cc), .val (.ref a36), .val (.int (1 : Int32)), .val (.ref o108), .val (.int (Int32.ofNat q)), .unset] [(.int ((p2 &&& (2147483647 : Int32)) % (Int32.ofNat q)))])) (fun _ kk => iremM X114 hx rfl (hb hby at_255) rfl (own_nzI hq0 (by omega)) kk) ?_
    obtain ⟨z, hz, ez⟩ := own_probe p2 hq0 (by omega)
    rw [ez]
    refine own_st (G := T112.setTop (mkF m 258 #[.val (.int p0), .val (.long p1), .second, .val (.int p2), .val (.int p3), .val (.int p4), .val (.int p5), .val (.int (Int32.ofNat na)), .val (.int (Int32.ofNat nc)), .val (.int (Int32.ofNat nd)), .val (.ref a9), .val (.int (Int32.ofNat (na + nc + nd))), .val (.long (Int64.ofNat q)), .second, .val (.int cc), .val (.ref a36), .val (.int (1 : Int32)), .val (.ref o108), .val (.int (Int32.ofNat q)), .val (.int (Int32.ofNat z))] [])) (fun _ kk => XS.istore X114.here hx rfl (hb hby at_256) rfl (l' := #[.val (.int p0), .val (.long p1), .second, .val (.int p2), .val (.int p3), .val (.int p4), .val (.int p5), .val (.int (Int32.ofNat na)), .val (.int (Int32.ofNat nc)), .val (.int (Int32.ofNat nd)), .val (.ref a9), .val (.int (Int32.ofNat (na + nc + nd))), .val (.long (Int64.ofNat q)), .second, .val (.int cc), .val (.ref a36), .val (.int (1 : Int32)), .val (.ref o108), .val (.int (Int32.ofNat q)), .val (.int (Int32.ofNat z))]) rfl kk) ?_
    refine own_st (G := T112.setTop (mkF m 260 #[.val (.int p0), .val (.long p1), .second, .val (.int p2), .val (.int p3), .val (.int p4), .val (.int p5), .val (.int (Int32.ofNat na)), .val (.int (Int32.ofNat nc)), .val (.int (Int32.ofNat nd)), .val (.ref a9), .val (.int (Int32.ofNat (na + nc + nd))), .val (.long (Int64.ofNat q)), .second, .val (.int cc), .val (.ref a36), .val (.int (1 : Int32)), .val (.ref o108), .val (.int (Int32.ofNat q)), .val (.int (Int32.ofNat z))] [(.int (1 : Int32))])) (fun _ kk => XS.iload X114.here hx rfl (hb hby at_258) rfl kk) ?_
    refine own_st (G := T112.setTop (mkF m 263 #[.val (.int p0), .val (.long p1), .second, .val (.int p2), .val (.int p3), .val (.int p4), .val (.int p5), .val (.int (Int32.ofNat na)), .val (.int (Int32.ofNat nc)), .val (.int (Int32.ofNat nd)), .val (.ref a9), .val (.int (Int32.ofNat (na + nc + nd))), .val (.long (Int64.ofNat q)), .second, .val (.int cc), .val (.ref a36), .val (.int (1 : Int32)), .val (.ref o108), .val (.int (Int32.ofNat q)), .val (.int (Int32.ofNat z))] [])) (fun _ kk => XS.ifNo X114.here hx rfl (hb hby at_260) rfl (XT.i0_eq_f (by decide : ¬ (1 : Int32) = (0 : Int32))) kk) ?_
    refine own_st (G := T112.setTop (mkF m 265 #[.val (.int p0), .val (.long p1), .second, .val (.int p2), .val (.int p3), .val (.int p4), .val (.int p5), .val (.int (Int32.ofNat na)), .val (.int (Int32.ofNat nc)), .val (.int (Int32.ofNat nd)), .val (.ref a9), .val (.int (Int32.ofNat (na + nc + nd))), .val (.long (Int64.ofNat q)), .second, .val (.int cc), .val (.ref a36), .val (.int (1 : Int32)), .val (.ref o108), .val (.int (Int32.ofNat q)), .val (.int (Int32.ofNat z))] [(.ref o108)])) (fun _ kk => XS.aload X114.here hx rfl (hb hby at_263) rfl rfl kk) ?_
    refine own_st (G := T112.setTop (mkF m 267 #[.val (.int p0), .val (.long p1), .second, .val (.int p2), .val (.int p3), .val (.int p4), .val (.int p5), .val (.int (Int32.ofNat na)), .val (.int (Int32.ofNat nc)), .val (.int (Int32.ofNat nd)), .val (.ref a9), .val (.int (Int32.ofNat (na + nc + nd))), .val (.long (Int64.ofNat q)), .second, .val (.int cc), .val (.ref a36), .val (.int (1 : Int32)), .val (.ref o108), .val (.int (Int32.ofNat q)), .val (.int (Int32.ofNat z))] [(.int (Int32.ofNat z)), (.ref o108)])) (fun _ kk => XS.iload X114.here hx rfl (hb hby at_265) rfl kk) ?_
    refine own_baload X114 hx hZ rfl F111 (j := (Int32.ofNat z)) (i := z) (own_ixn (n := z) (by omega)).1 (own_ixn (n := z) (by omega)).2 (by omega) (hb hby at_267) ?_
    show own_Out _ _ _ _ (T112.setTop (mkF m 268 #[.val (.int p0), .val (.long p1), .second, .val (.int p2), .val (.int p3), .val (.int p4), .val (.int p5), .val (.int (Int32.ofNat na)), .val (.int (Int32.ofNat nc)), .val (.int (Int32.ofNat nd)), .val (.ref a9), .val (.int (Int32.ofNat (na + nc + nd))), .val (.long (Int64.ofNat q)), .second, .val (.int cc), .val (.ref a36), .val (.int (1 : Int32)), .val (.ref o108), .val (.int (Int32.ofNat q)), .val (.int (Int32.ofNat z))] [(.int (F4 z))]))
    refine own_st (G := T112.setTop (mkF m 270 #[.val (.int p0), .val (.long p1), .second, .val (.int p2), .val (.int p3), .val (.int p4), .val (.int p5), .val (.int (Int32.ofNat na)), .val (.int (Int32.ofNat nc)), .val (.int (Int32.ofNat nd)), .val (.ref a9), .val (.int (Int32.ofNat (na + nc + nd))), .val (.long (Int64.ofNat q)), .second, .val (.int cc), .val (.ref a36), .val (.int (1 : Int32)), .val (.ref o108), .val (.int (Int32.ofNat q)), .val (.int (Int32.ofNat z))] [(.ref a9), (.int (F4 z))])) (fun _ kk => XS.aload X114.here hx rfl (hb hby at_268) rfl rfl kk) ?_
    refine own_st (G := T112.setTop (mkF m 272 #[.val (.int p0), .val (.long p1), .second, .val (.int p2), .val (.int p3), .val (.int p4), .val (.int p5), .val (.int (Int32.ofNat na)), .val (.int (Int32.ofNat nc)), .val (.int (Int32.ofNat nd)), .val (.ref a9), .val (.int (Int32.ofNat (na + nc + nd))), .val (.long (Int64.ofNat q)), .second, .val (.int cc), .val (.ref a36), .val (.int (1 : Int32)), .val (.ref o108), .val (.int (Int32.ofNat q)), .val (.int (Int32.ofNat z))] [(.int (Int32.ofNat na)), (.ref a9), (.int (F4 z))])) (fun _ kk => XS.iload X114.here hx rfl (hb hby at_270) rfl kk) ?_
    refine own_st (G := T112.setTop (mkF m 274 #[.val (.int p0), .val (.long p1), .second, .val (.int p2), .val (.int p3), .val (.int p4), .val (.int p5), .val (.int (Int32.ofNat na)), .val (.int (Int32.ofNat nc)), .val (.int (Int32.ofNat nd)), .val (.ref a9), .val (.int (Int32.ofNat (na + nc + nd))), .val (.long (Int64.ofNat q)), .second, .val (.int cc), .val (.ref a36), .val (.int (1 : Int32)), .val (.ref o108), .val (.int (Int32.ofNat q)), .val (.int (Int32.ofNat z))] [(.int (Int32.ofNat nc)), (.int (Int32.ofNat na)), (.ref a9), (.int (F4 z))])) (fun _ kk => XS.iload X114.here hx rfl (hb hby at_272) rfl kk) ?_
    refine own_st (G := T112.setTop (mkF m 276 #[.val (.int p0), .val (.long p1), .second, .val (.int p2), .val (.int p3), .val (.int p4), .val (.int p5), .val (.int (Int32.ofNat na)), .val (.int (Int32.ofNat nc)), .val (.int (Int32.ofNat nd)), .val (.ref a9), .val (.int (Int32.ofNat (na + nc + nd))), .val (.long (Int64.ofNat q)), .second, .val (.int cc), .val (.ref a36), .val (.int (1 : Int32)), .val (.ref o108), .val (.int (Int32.ofNat q)), .val (.int (Int32.ofNat z))] [(.int (Int32.ofNat z)), (.int (Int32.ofNat nc)), (.int (Int32.ofNat na)), (.ref a9), (.int (F4 z))])) (fun _ kk => XS.iload X114.here hx rfl (hb hby at_274) rfl kk) ?_
    refine own_callS X114 hx hZ (y := (⟨"com/example/kennel/kennel/Utf8BuilderTruncatePinLaw", "expected", "([BIII)B"⟩ : MethodName)) (as' := [(.ref a9), (.int (Int32.ofNat na)), (.int (Int32.ofNat nc)), (.int (Int32.ofNat z))]) hown (own_w hw 82 rfl) (own_w hw 83 rfl) (own_w hw 84 rfl) (own_w hw 85 rfl) (by decide) (own_expd l Z a0 hw [] a9 na nc nd z fr T112.heap n0 Fb116 hna hnc hnd (by omega)) 1 (by decide) (by decide) (by decide) (by decide) (rest := [(.int (F4 z))]) (by rw [hml]; rfl) (lenOf (by decide : parseMethodDescriptor "([BIII)B" = some ⟨[.array (.byte), .int, .int, .int], some (.byte)⟩) rfl) rfl (Nat.le_of_eq rfl) (hb hby at_276) rfl ?_
    intro T124 L125 v127 X126 hQ
    obtain ⟨rfl, rfl, eq123⟩ := hQ
    show own_Out _ _ _ _ (T124.setTop (mkF m 279 #[.val (.int p0), .val (.long p1), .second, .val (.int p2), .val (.int p3), .val (.int p4), .val (.int p5), .val (.int (Int32.ofNat na)), .val (.int (Int32.ofNat nc)), .val (.int (Int32.ofNat nd)), .val (.ref a9), .val (.int (Int32.ofNat (na + nc + nd))), .val (.long (Int64.ofNat q)), .second, .val (.int cc), .val (.ref a36), .val (.int (1 : Int32)), .val (.ref o108), .val (.int (Int32.ofNat q)), .val (.int (Int32.ofNat z))] [(.int (fr (own_exp na nc z))), (.int (F4 z))]))
    have N120 := Fr.app N105 (Fr.nil n0)
    have hk128 : ((F4 z) = (fr (own_exp na nc z))) := (by rw [hF4]; exact (if_pos (by omega)).trans (own_expF3 (nd := nd) hF1 hF2 hF3 z (by omega)))
    refine own_st (G := T124.setTop (mkF m 282 #[.val (.int p0), .val (.long p1), .second, .val (.int p2), .val (.int p3), .val (.int p4), .val (.int p5), .val (.int (Int32.ofNat na)), .val (.int (Int32.ofNat nc)), .val (.int (Int32.ofNat nd)), .val (.ref a9), .val (.int (Int32.ofNat (na + nc + nd))), .val (.long (Int64.ofNat q)), .second, .val (.int cc), .val (.ref a36), .val (.int (1 : Int32)), .val (.ref o108), .val (.int (Int32.ofNat q)), .val (.int (Int32.ofNat z))] [])) (fun _ kk => XS.icmpNo X126.here hx rfl (hb hby at_279) rfl (XT.ii_ne_f hk128) kk) ?_
    refine own_st (G := T124.setTop (mkF m 283 #[.val (.int p0), .val (.long p1), .second, .val (.int p2), .val (.int p3), .val (.int p4), .val (.int p5), .val (.int (Int32.ofNat na)), .val (.int (Int32.ofNat nc)), .val (.int (Int32.ofNat nd)), .val (.ref a9), .val (.int (Int32.ofNat (na + nc + nd))), .val (.long (Int64.ofNat q)), .second, .val (.int cc), .val (.ref a36), .val (.int (1 : Int32)), .val (.ref o108), .val (.int (Int32.ofNat q)), .val (.int (Int32.ofNat z))] [(.int (1 : Int32))])) (fun _ kk => XT.iconstV X126.here hx rfl (1 : Int32) (hb hby at_282) (by decide) kk) ?_
    refine own_st (G := T124.setTop (mkF m 287 #[.val (.int p0), .val (.long p1), .second, .val (.int p2), .val (.int p3), .val (.int p4), .val (.int p5), .val (.int (Int32.ofNat na)), .val (.int (Int32.ofNat nc)), .val (.int (Int32.ofNat nd)), .val (.ref a9), .val (.int (Int32.ofNat (na + nc + nd))), .val (.long (Int64.ofNat q)), .second, .val (.int cc), .val (.ref a36), .val (.int (1 : Int32)), .val (.ref o108), .val (.int (Int32.ofNat q)), .val (.int (Int32.ofNat z))] [(.int (1 : Int32))])) (fun _ kk => XS.goto X126.here hx rfl (pc0 := 283) (pc' := 287) rfl (hb hby at_283) (by decide) (by decide) kk) ?_
    refine own_st (G := T124.setTop (mkF m 289 #[.val (.int p0), .val (.long p1), .second, .val (.int p2), .val (.int p3), .val (.int p4), .val (.int p5), .val (.int (Int32.ofNat na)), .val (.int (Int32.ofNat nc)), .val (.int (Int32.ofNat nd)), .val (.ref a9), .val (.int (Int32.ofNat (na + nc + nd))), .val (.long (Int64.ofNat q)), .second, .val (.int cc), .val (.ref a36), .val (.int (1 : Int32)), .val (.ref o108), .val (.int (Int32.ofNat q)), .val (.int (Int32.ofNat z))] [])) (fun _ kk => XS.istore X126.here hx rfl (hb hby at_287) rfl (l' := #[.val (.int p0), .val (.long p1), .second, .val (.int p2), .val (.int p3), .val (.int p4), .val (.int p5), .val (.int (Int32.ofNat na)), .val (.int (Int32.ofNat nc)), .val (.int (Int32.ofNat nd)), .val (.ref a9), .val (.int (Int32.ofNat (na + nc + nd))), .val (.long (Int64.ofNat q)), .second, .val (.int cc), .val (.ref a36), .val (.int (1 : Int32)), .val (.ref o108), .val (.int (Int32.ofNat q)), .val (.int (Int32.ofNat z))]) rfl kk) ?_
    refine own_st (G := T124.setTop (mkF m 291 #[.val (.int p0), .val (.long p1), .second, .val (.int p2), .val (.int p3), .val (.int p4), .val (.int p5), .val (.int (Int32.ofNat na)), .val (.int (Int32.ofNat nc)), .val (.int (Int32.ofNat nd)), .val (.ref a9), .val (.int (Int32.ofNat (na + nc + nd))), .val (.long (Int64.ofNat q)), .second, .val (.int cc), .val (.ref a36), .val (.int (1 : Int32)), .val (.ref o108), .val (.int (Int32.ofNat q)), .val (.int (Int32.ofNat z))] [(.int (1 : Int32))])) (fun _ kk => XS.iload X126.here hx rfl (hb hby at_289) rfl kk) ?_
    refine own_st (G := T124.setTop (mkF m 294 #[.val (.int p0), .val (.long p1), .second, .val (.int p2), .val (.int p3), .val (.int p4), .val (.int p5), .val (.int (Int32.ofNat na)), .val (.int (Int32.ofNat nc)), .val (.int (Int32.ofNat nd)), .val (.ref a9), .val (.int (Int32.ofNat (na + nc + nd))), .val (.long (Int64.ofNat q)), .second, .val (.int cc), .val (.ref a36), .val (.int (1 : Int32)), .val (.ref o108), .val (.int (Int32.ofNat q)), .val (.int (Int32.ofNat z))] [])) (fun _ kk => XS.ifNo X126.here hx rfl (hb hby at_291) rfl (XT.i0_eq_f (by decide : ¬ (1 : Int32) = (0 : Int32))) kk) ?_
    refine own_st (G := T124.setTop (mkF m 296 #[.val (.int p0), .val (.long p1), .second, .val (.int p2), .val (.int p3), .val (.int p4), .val (.int p5), .val (.int (Int32.ofNat na)), .val (.int (Int32.ofNat nc)), .val (.int (Int32.ofNat nd)), .val (.ref a9), .val (.int (Int32.ofNat (na + nc + nd))), .val (.long (Int64.ofNat q)), .second, .val (.int cc), .val (.ref a36), .val (.int (1 : Int32)), .val (.ref o108), .val (.int (Int32.ofNat q)), .val (.int (Int32.ofNat z))] [(.ref o108)])) (fun _ kk => XS.aload X126.here hx rfl (hb hby at_294) rfl rfl kk) ?_
    refine own_st (G := T124.setTop (mkF m 298 #[.val (.int p0), .val (.long p1), .second, .val (.int p2), .val (.int p3), .val (.int p4), .val (.int p5), .val (.int (Int32.ofNat na)), .val (.int (Int32.ofNat nc)), .val (.int (Int32.ofNat nd)), .val (.ref a9), .val (.int (Int32.ofNat (na + nc + nd))), .val (.long (Int64.ofNat q)), .second, .val (.int cc), .val (.ref a36), .val (.int (1 : Int32)), .val (.ref o108), .val (.int (Int32.ofNat q)), .val (.int (Int32.ofNat z))] [(.int (Int32.ofNat q)), (.ref o108)])) (fun _ kk => XS.iload X126.here hx rfl (hb hby at_296) rfl kk) ?_
    refine own_st (G := T124.setTop (mkF m 299 #[.val (.int p0), .val (.long p1), .second, .val (.int p2), .val (.int p3), .val (.int p4), .val (.int p5), .val (.int (Int32.ofNat na)), .val (.int (Int32.ofNat nc)), .val (.int (Int32.ofNat nd)), .val (.ref a9), .val (.int (Int32.ofNat (na + nc + nd))), .val (.long (Int64.ofNat q)), .second, .val (.int cc), .val (.ref a36), .val (.int (1 : Int32)), .val (.ref o108), .val (.int (Int32.ofNat q)), .val (.int (Int32.ofNat z))] [(.int (1 : Int32)), (.int (Int32.ofNat q)), (.ref o108)])) (fun _ kk => XT.iconstV X126.here hx rfl (1 : Int32) (hb hby at_298) (by decide) kk) ?_
    refine own_st (G := T124.setTop (mkF m 300 #[.val (.int p0), .val (.long p1), .second, .val (.int p2), .val (.int p3), .val (.int p4), .val (.int p5), .val (.int (Int32.ofNat na)), .val (.int (Int32.ofNat nc)), .val (.int (Int32.ofNat nd)), .val (.ref a9), .val (.int (Int32.ofNat (na + nc + nd))), .val (.long (Int64.ofNat q)), .second, .val (.int cc), .val (.ref a36), .val (.int (1 : Int32)), .val (.ref o108), .val (.int (Int32.ofNat q)), .val (.int (Int32.ofNat z))] [(.int ((Int32.ofNat q) - (1 : Int32))), (.ref o108)])) (fun _ kk => XS.isub X126.here hx rfl (hb hby at_299) rfl kk) ?_
    rw [show ((Int32.ofNat q) - (1 : Int32)) = (Int32.ofNat (q - 1)) from own_subI (y := 1) (by omega) (by omega)]
    refine own_baload X126 hx hZ eq123 F111 (j := (Int32.ofNat (q - 1))) (i := (q - 1)) (own_ixn (n := (q - 1)) (by omega)).1 (own_ixn (n := (q - 1)) (by omega)).2 (by omega) (hb hby at_300) ?_
    show own_Out _ _ _ _ (T124.setTop (mkF m 301 #[.val (.int p0), .val (.long p1), .second, .val (.int p2), .val (.int p3), .val (.int p4), .val (.int p5), .val (.int (Int32.ofNat na)), .val (.int (Int32.ofNat nc)), .val (.int (Int32.ofNat nd)), .val (.ref a9), .val (.int (Int32.ofNat (na + nc + nd))), .val (.long (Int64.ofNat q)), .second, .val (.int cc), .val (.ref a36), .val (.int (1 : Int32)), .val (.ref o108), .val (.int (Int32.ofNat q)), .val (.int (Int32.ofNat z))] [(.int (F4 (q - 1)))]))
    refine own_st (G := T124.setTop (mkF m 303 #[.val (.int p0), .val (.long p1), .second, .val (.int p2), .val (.int p3), .val (.int p4), .val (.int p5), .val (.int (Int32.ofNat na)), .val (.int (Int32.ofNat nc)), .val (.int (Int32.ofNat nd)), .val (.ref a9), .val (.int (Int32.ofNat (na + nc + nd))), .val (.long (Int64.ofNat q)), .second, .val (.int cc), .val (.ref a36), .val (.int (1 : Int32)), .val (.ref o108), .val (.int (Int32.ofNat q)), .val (.int (Int32.ofNat z))] [(.ref a9), (.int (F4 (q - 1)))])) (fun _ kk => XS.aload X126.here hx rfl (hb hby at_301) rfl rfl kk) ?_
    refine own_st (G := T124.setTop (mkF m 305 #[.val (.int p0), .val (.long p1), .second, .val (.int p2), .val (.int p3), .val (.int p4), .val (.int p5), .val (.int (Int32.ofNat na)), .val (.int (Int32.ofNat nc)), .val (.int (Int32.ofNat nd)), .val (.ref a9), .val (.int (Int32.ofNat (na + nc + nd))), .val (.long (Int64.ofNat q)), .second, .val (.int cc), .val (.ref a36), .val (.int (1 : Int32)), .val (.ref o108), .val (.int (Int32.ofNat q)), .val (.int (Int32.ofNat z))] [(.int (Int32.ofNat na)), (.ref a9), (.int (F4 (q - 1)))])) (fun _ kk => XS.iload X126.here hx rfl (hb hby at_303) rfl kk) ?_
    refine own_st (G := T124.setTop (mkF m 307 #[.val (.int p0), .val (.long p1), .second, .val (.int p2), .val (.int p3), .val (.int p4), .val (.int p5), .val (.int (Int32.ofNat na)), .val (.int (Int32.ofNat nc)), .val (.int (Int32.ofNat nd)), .val (.ref a9), .val (.int (Int32.ofNat (na + nc + nd))), .val (.long (Int64.ofNat q)), .second, .val (.int cc), .val (.ref a36), .val (.int (1 : Int32)), .val (.ref o108), .val (.int (Int32.ofNat q)), .val (.int (Int32.ofNat z))] [(.int (Int32.ofNat nc)), (.int (Int32.ofNat na)), (.ref a9), (.int (F4 (q - 1)))])) (fun _ kk => XS.iload X126.here hx rfl (hb hby at_305) rfl kk) ?_
    refine own_st (G := T124.setTop (mkF m 309 #[.val (.int p0), .val (.long p1), .second, .val (.int p2), .val (.int p3), .val (.int p4), .val (.int p5), .val (.int (Int32.ofNat na)), .val (.int (Int32.ofNat nc)), .val (.int (Int32.ofNat nd)), .val (.ref a9), .val (.int (Int32.ofNat (na + nc + nd))), .val (.long (Int64.ofNat q)), .second, .val (.int cc), .val (.ref a36), .val (.int (1 : Int32)), .val (.ref o108), .val (.int (Int32.ofNat q)), .val (.int (Int32.ofNat z))] [(.int (Int32.ofNat q)), (.int (Int32.ofNat nc)), (.int (Int32.ofNat na)), (.ref a9), (.int (F4 (q - 1)))])) (fun _ kk => XS.iload X126.here hx rfl (hb hby at_307) rfl kk) ?_
    refine own_st (G := T124.setTop (mkF m 310 #[.val (.int p0), .val (.long p1), .second, .val (.int p2), .val (.int p3), .val (.int p4), .val (.int p5), .val (.int (Int32.ofNat na)), .val (.int (Int32.ofNat nc)), .val (.int (Int32.ofNat nd)), .val (.ref a9), .val (.int (Int32.ofNat (na + nc + nd))), .val (.long (Int64.ofNat q)), .second, .val (.int cc), .val (.ref a36), .val (.int (1 : Int32)), .val (.ref o108), .val (.int (Int32.ofNat q)), .val (.int (Int32.ofNat z))] [(.int (1 : Int32)), (.int (Int32.ofNat q)), (.int (Int32.ofNat nc)), (.int (Int32.ofNat na)), (.ref a9), (.int (F4 (q - 1)))])) (fun _ kk => XT.iconstV X126.here hx rfl (1 : Int32) (hb hby at_309) (by decide) kk) ?_
    refine own_st (G := T124.setTop (mkF m 311 #[.val (.int p0), .val (.long p1), .second, .val (.int p2), .val (.int p3), .val (.int p4), .val (.int p5), .val (.int (Int32.ofNat na)), .val (.int (Int32.ofNat nc)), .val (.int (Int32.ofNat nd)), .val (.ref a9), .val (.int (Int32.ofNat (na + nc + nd))), .val (.long (Int64.ofNat q)), .second, .val (.int cc), .val (.ref a36), .val (.int (1 : Int32)), .val (.ref o108), .val (.int (Int32.ofNat q)), .val (.int (Int32.ofNat z))] [(.int ((Int32.ofNat q) - (1 : Int32))), (.int (Int32.ofNat nc)), (.int (Int32.ofNat na)), (.ref a9), (.int (F4 (q - 1)))])) (fun _ kk => XS.isub X126.here hx rfl (hb hby at_310) rfl kk) ?_
    rw [show ((Int32.ofNat q) - (1 : Int32)) = (Int32.ofNat (q - 1)) from own_subI (y := 1) (by omega) (by omega)]
    refine own_callS X126 hx hZ (y := (⟨"com/example/kennel/kennel/Utf8BuilderTruncatePinLaw", "expected", "([BIII)B"⟩ : MethodName)) (as' := [(.ref a9), (.int (Int32.ofNat na)), (.int (Int32.ofNat nc)), (.int (Int32.ofNat (q - 1)))]) hown (own_w hw 82 rfl) (own_w hw 83 rfl) (own_w hw 84 rfl) (own_w hw 85 rfl) (by decide) (own_expd l Z a0 hw [] a9 na nc nd (q - 1) fr T112.heap n0 Fb116 hna hnc hnd (by omega)) 1 (by decide) (by decide) (by decide) (by decide) (rest := [(.int (F4 (q - 1)))]) (by rw [hml]; rfl) (lenOf (by decide : parseMethodDescriptor "([BIII)B" = some ⟨[.array (.byte), .int, .int, .int], some (.byte)⟩) rfl) rfl (Nat.le_of_eq rfl) (hb hby at_311) eq123 ?_
    intro T133 L134 v136 X135 hQ
    obtain ⟨rfl, rfl, eq132⟩ := hQ
    show own_Out _ _ _ _ (T133.setTop (mkF m 314 #[.val (.int p0), .val (.long p1), .second, .val (.int p2), .val (.int p3), .val (.int p4), .val (.int p5), .val (.int (Int32.ofNat na)), .val (.int (Int32.ofNat nc)), .val (.int (Int32.ofNat nd)), .val (.ref a9), .val (.int (Int32.ofNat (na + nc + nd))), .val (.long (Int64.ofNat q)), .second, .val (.int cc), .val (.ref a36), .val (.int (1 : Int32)), .val (.ref o108), .val (.int (Int32.ofNat q)), .val (.int (Int32.ofNat z))] [(.int (fr (own_exp na nc (q - 1)))), (.int (F4 (q - 1)))]))
    have N129 := Fr.app N120 (Fr.nil n0)
    have hk137 : ((F4 (q - 1)) = (fr (own_exp na nc (q - 1)))) := (by rw [hF4]; exact (if_pos (by omega)).trans (own_expF3 (nd := nd) hF1 hF2 hF3 (q - 1) (by omega)))
    refine own_st (G := T133.setTop (mkF m 317 #[.val (.int p0), .val (.long p1), .second, .val (.int p2), .val (.int p3), .val (.int p4), .val (.int p5), .val (.int (Int32.ofNat na)), .val (.int (Int32.ofNat nc)), .val (.int (Int32.ofNat nd)), .val (.ref a9), .val (.int (Int32.ofNat (na + nc + nd))), .val (.long (Int64.ofNat q)), .second, .val (.int cc), .val (.ref a36), .val (.int (1 : Int32)), .val (.ref o108), .val (.int (Int32.ofNat q)), .val (.int (Int32.ofNat z))] [])) (fun _ kk => XS.icmpNo X135.here hx rfl (hb hby at_314) rfl (XT.ii_ne_f hk137) kk) ?_
    refine own_st (G := T133.setTop (mkF m 318 #[.val (.int p0), .val (.long p1), .second, .val (.int p2), .val (.int p3), .val (.int p4), .val (.int p5), .val (.int (Int32.ofNat na)), .val (.int (Int32.ofNat nc)), .val (.int (Int32.ofNat nd)), .val (.ref a9), .val (.int (Int32.ofNat (na + nc + nd))), .val (.long (Int64.ofNat q)), .second, .val (.int cc), .val (.ref a36), .val (.int (1 : Int32)), .val (.ref o108), .val (.int (Int32.ofNat q)), .val (.int (Int32.ofNat z))] [(.int (1 : Int32))])) (fun _ kk => XT.iconstV X135.here hx rfl (1 : Int32) (hb hby at_317) (by decide) kk) ?_
    refine own_st (G := T133.setTop (mkF m 322 #[.val (.int p0), .val (.long p1), .second, .val (.int p2), .val (.int p3), .val (.int p4), .val (.int p5), .val (.int (Int32.ofNat na)), .val (.int (Int32.ofNat nc)), .val (.int (Int32.ofNat nd)), .val (.ref a9), .val (.int (Int32.ofNat (na + nc + nd))), .val (.long (Int64.ofNat q)), .second, .val (.int cc), .val (.ref a36), .val (.int (1 : Int32)), .val (.ref o108), .val (.int (Int32.ofNat q)), .val (.int (Int32.ofNat z))] [(.int (1 : Int32))])) (fun _ kk => XS.goto X135.here hx rfl (pc0 := 318) (pc' := 322) rfl (hb hby at_318) (by decide) (by decide) kk) ?_
    refine own_st (G := T133.setTop (mkF m 324 #[.val (.int p0), .val (.long p1), .second, .val (.int p2), .val (.int p3), .val (.int p4), .val (.int p5), .val (.int (Int32.ofNat na)), .val (.int (Int32.ofNat nc)), .val (.int (Int32.ofNat nd)), .val (.ref a9), .val (.int (Int32.ofNat (na + nc + nd))), .val (.long (Int64.ofNat q)), .second, .val (.int cc), .val (.ref a36), .val (.int (1 : Int32)), .val (.ref o108), .val (.int (Int32.ofNat q)), .val (.int (Int32.ofNat z))] [])) (fun _ kk => XS.istore X135.here hx rfl (hb hby at_322) rfl (l' := #[.val (.int p0), .val (.long p1), .second, .val (.int p2), .val (.int p3), .val (.int p4), .val (.int p5), .val (.int (Int32.ofNat na)), .val (.int (Int32.ofNat nc)), .val (.int (Int32.ofNat nd)), .val (.ref a9), .val (.int (Int32.ofNat (na + nc + nd))), .val (.long (Int64.ofNat q)), .second, .val (.int cc), .val (.ref a36), .val (.int (1 : Int32)), .val (.ref o108), .val (.int (Int32.ofNat q)), .val (.int (Int32.ofNat z))]) rfl kk) ?_
    refine own_st (G := T133.setTop (mkF m 326 #[.val (.int p0), .val (.long p1), .second, .val (.int p2), .val (.int p3), .val (.int p4), .val (.int p5), .val (.int (Int32.ofNat na)), .val (.int (Int32.ofNat nc)), .val (.int (Int32.ofNat nd)), .val (.ref a9), .val (.int (Int32.ofNat (na + nc + nd))), .val (.long (Int64.ofNat q)), .second, .val (.int cc), .val (.ref a36), .val (.int (1 : Int32)), .val (.ref o108), .val (.int (Int32.ofNat q)), .val (.int (Int32.ofNat z))] [(.int (1 : Int32))])) (fun _ kk => XS.iload X135.here hx rfl (hb hby at_324) rfl kk) ?_
    refine own_retB X135 hx hret (by simp) hlk (hb hby at_326) (by decide) (by decide) ?_
    exact ⟨rfl, N129⟩
  · skip
    refine own_st (G := T112.setTop (mkF m 324 #[.val (.int p0), .val (.long p1), .second, .val (.int p2), .val (.int p3), .val (.int p4), .val (.int p5), .val (.int (Int32.ofNat na)), .val (.int (Int32.ofNat nc)), .val (.int (Int32.ofNat nd)), .val (.ref a9), .val (.int (Int32.ofNat (na + nc + nd))), .val (.long (Int64.ofNat q)), .second, .val (.int cc), .val (.ref a36), .val (.int (1 : Int32)), .val (.ref o108), .val (.int (Int32.ofNat q)), .unset] [])) (fun _ kk => XS.ifYes X114.here hx rfl (pc0 := 246) (pc' := 324) rfl (hb hby at_246) rfl (XT.i0_le_t hc119) (by decide) (by decide) kk) ?_
    refine own_st (G := T112.setTop (mkF m 326 #[.val (.int p0), .val (.long p1), .second, .val (.int p2), .val (.int p3), .val (.int p4), .val (.int p5), .val (.int (Int32.ofNat na)), .val (.int (Int32.ofNat nc)), .val (.int (Int32.ofNat nd)), .val (.ref a9), .val (.int (Int32.ofNat (na + nc + nd))), .val (.long (Int64.ofNat q)), .second, .val (.int cc), .val (.ref a36), .val (.int (1 : Int32)), .val (.ref o108), .val (.int (Int32.ofNat q)), .unset] [(.int (1 : Int32))])) (fun _ kk => XS.iload X114.here hx rfl (hb hby at_324) rfl kk) ?_
    refine own_retB X114 hx hret (by simp) hlk (hb hby at_326) (by decide) (by decide) ?_
    exact ⟨rfl, N105⟩
set_option maxRecDepth 65536 in
set_option maxHeartbeats 40000000 in
theorem comes_1 {Post : Tables → Env → Array Value → State → Outcome → State → Prop} (hpost : ∀ tb e args s v u, (limb_1_1.after args s (.returned v) u = true ∧ limb_1_2.after args s (.returned v) u = true ∧ True) → FrameEnd s (.returned v) u (Jvm.fieldLocs frame_1_writes args s ++ Jvm.arrayLocs frame_1_arrays args s ++ Jvm.staticLocs frame_1_statics s) 32 8704 → Post tb e args s (.returned v) u) :
    ArmFor flags0 classFile x code maxLocals ret World_1 tables_1 room_1 Calls_1 rest_1 Pre_1 Post := by
  intro l hfl _ _ p e ha hc hk s m args below hf hA hF happ hP
  obtain ⟨hcalls, hrest, hpre⟩ := hP
  obtain ⟨-, -, -, hnamed, -, -, -, hat⟩ := (Spec.applies_iff hf).mp happ
  obtain ⟨hg, hn⟩ := and_e (Cond.before_iff.mp (show (Jvm.Cond.and given_1 narrow_1).before args s = true from hpre))
  obtain ⟨hct, hk0⟩ := and_e hg
  obtain ⟨ha0, hk1⟩ := and_e hk0
  obtain ⟨ha1, hk2⟩ := and_e hk1
  obtain ⟨ha2, hk3⟩ := and_e hk2
  obtain ⟨ha3, hk4⟩ := and_e hk3
  obtain ⟨ha4, hk5⟩ := and_e hk4
  have ha5 := hk5
  obtain ⟨w0, w1, w2, w3, w4, w5, rfl⟩ : ∃ w0 w1 w2 w3 w4 w5 : Value, args = #[w0, w1, w2, w3, w4, w5] := by
    have hs : args.size = 6 := by simpa [Cond.value, given_1] using hct
    obtain ⟨L⟩ := args
    match L, hs with
    | [w0, w1, w2, w3, w4, w5], _ => exact ⟨w0, w1, w2, w3, w4, w5, rfl⟩
  have hw := fun d (hd : d ∈ tables_1) => atoms_spec (ws := Jvm.Cond.code x code maxLocals ret :: tables_1) hat d (List.mem_cons_of_mem _ hd)
  obtain ⟨i0, e0⟩ := is_v ha0
  obtain rfl : w0 = (.int i0) := Option.some.inj e0
  obtain ⟨i1, e1⟩ := isL_v ha1
  obtain rfl : w1 = (.long i1) := Option.some.inj e1
  obtain ⟨i2, e2⟩ := is_v ha2
  obtain rfl : w2 = (.int i2) := Option.some.inj e2
  obtain ⟨i3, e3⟩ := is_v ha3
  obtain rfl : w3 = (.int i3) := Option.some.inj e3
  obtain ⟨i4, e4⟩ := is_v ha4
  obtain rfl : w4 = (.int i4) := Option.some.inj e4
  obtain ⟨i5, e5⟩ := is_v ha5
  obtain rfl : w5 = (.int i5) := Option.some.inj e5
  obtain ⟨n, o, h1, h2, h3, _, L, rfl, ⟨rfl, N⟩, hq⟩ := own_law l s _ hw tables_1 i0 i1 i2 i3 i4 i5 s.heap s.heap.size (Nat.le_refl _) p e ha hc hk s m _ below hf ((Spec.applies_iff_loose hf).mp happ).1 ⟨rfl, State.Warmed39.refl s, rfl⟩ trivial
  refine ⟨n, _, h1, h2, h3, hpost _ _ _ _ _ _ ⟨Cond.after_iff.mpr rfl, Cond.after_iff.mpr (eq_i res_at (Term.int_eval (1)) rfl), trivial⟩ ⟨hq.1, hq.2.1, (hq.2.2.sift fun y hy => Or.inr (N y hy)).mono (by decide) (by decide)⟩⟩
theorem main_1_1 : Claimed_1_1 := comes_1 fun _ _ _ _ _ _ h hF => ⟨h.1, hF⟩
theorem main_1_2 : Claimed_1_2 := comes_1 fun _ _ _ _ _ _ h hF => ⟨h.2.1, hF⟩
end Jvm.Pilot.@@N@@
namespace Jvm.Pilot.@@N@@
open Jvm Jvm.ClassFile Sem Op Lib Jvm.Free Jvm.Stand Jvm.Pilot.@@N@@.Jvm.D
/-! MADE BY PROGRAM (witnessworld.py) out of the Statement's table words and the real class files: 12 classes; the members and pool entries that the words name. The judged class is class 1, her method 1. -/
namespace start1
open Jvm.ClassFile
def u (s : String) : CpInfo := .utf8 (stringToUtf16 s)
/-- a pool by its gaps: so many unusable entries, then the entry; so many at the end -/
def gap : Nat → List CpInfo → List CpInfo
  | 0, r => r
  | n + 1, r => .unusable :: gap n r
def poolList (es : List (Nat × CpInfo)) (last : Nat) : List CpInfo := es.foldr (fun e r => gap e.1 (e.2 :: r)) (gap last [])
def pool (es : List (Nat × CpInfo)) (last : Nat) : Array CpInfo := ⟨poolList es last⟩
def fileOf (pool : Array CpInfo) (this : Nat) (attrs : Array Attribute := #[]) (ms : Array MethodInfo := #[]) (fl : Nat := 33) (sup : Nat := 0) (ifs : Array Nat := #[]) (fds : Array FieldInfo := #[]) : ClassFile where
  minorVersion := 0
  majorVersion := 65
  constantPool := pool
  accessFlags := fl
  thisClass := this
  superClass := sup
  interfaces := ifs
  fields := fds
  methods := ms
  attributes := attrs
def plain (name : String) (sup : Option ClassId) : Class where
  name := name
  kind := .ordinary
  loader := none
  accessFlags := 33
  super := sup
  interfaces := #[]
  cf := none
  fields := #[]
  methods := #[]
  instanceTypes := #[]
  staticTypes := #[]
  resolved := #[]
  callSites := []
  init := .initialized
  statics := none
  mirror := none

def pool0 : Array CpInfo := pool [(5, u "<init>"), (0, u "()V"), (1, .class_ 10), (1, u "java/lang/Object"), (85, u "clone"), (0, u "()Ljava/lang/Object;")] 26

def k0c0 : Code := { maxStack := 0, maxLocals := 1, code := object_method_1_code, exceptionTable := #[], attributes := #[] }
def k0m0 : Method := { name := "<init>", desc := "()V", sig := { parameters := [], returnType := none }, accessFlags := 1, code := some k0c0 }
def k0m1 : Method := { name := "clone", desc := "()Ljava/lang/Object;", sig := { parameters := [], returnType := some (.object "java/lang/Object") }, accessFlags := 260, code := none }
/-- java/lang/Object -/
def k0 : Class := { plain "java/lang/Object" none with
  accessFlags := 33
  interfaces := #[]
  cf := some (fileOf pool0 8 #[] #[{ accessFlags := 1, nameIndex := 5, descriptorIndex := 6, attributes := #[] }, { accessFlags := 260, nameIndex := 96, descriptorIndex := 97, attributes := #[] }] 33 0 #[] #[])
  fields := #[]
  methods := #[k0m0, k0m1]
  instanceTypes := #[]
  staticTypes := #[]
  resolved := Array.replicate 124 none
  statics := none }

def pool1 : Array CpInfo := pool [(2, .class_ 4), (1, u "java/lang/Object"), (0, u "<init>"), (0, u "()V"), (2, .long 9223372036854775807), (1, .class_ 12), (0, u "com/example/kennel/kennel/Utf8Builder"), (0, .integer 1048576), (0, .methodref 11 15), (0, .nameAndType 5 16), (0, u "(I)V"), (0, .methodref 11 18), (0, .nameAndType 19 20), (0, u "appendBytes"), (0, u "([BII)Lcom/example/kennel/kennel/Utf8Builder;"), (0, .methodref 11 22), (0, .nameAndType 23 24), (0, u "truncate"), (0, u "(J)V"), (0, .methodref 11 26), (0, .nameAndType 27 28), (0, u "length"), (0, u "()J"), (0, .methodref 11 30), (0, .nameAndType 31 32), (0, u "append"), (0, u "(C)Lcom/example/kennel/kennel/Utf8Builder;"), (0, .methodref 11 34), (0, .nameAndType 35 36), (0, u "toByteArray"), (0, u "()[B"), (0, .integer 2147483647), (0, .methodref 39 40), (0, .class_ 41), (0, .nameAndType 42 43), (0, u "com/example/kennel/kennel/Utf8BuilderTruncatePinLaw"), (0, u "expected"), (0, u "([BIII)B"), (2, u "law"), (0, u "(IJIIII)Z")] 5

def k1m0 : Method := { name := "<init>", desc := "()V", sig := { parameters := [], returnType := none }, accessFlags := 1, code := none }
def k1c1 : Code := { maxStack := 6, maxLocals := 20, code := code, exceptionTable := #[], attributes := #[] }
def k1m1 : Method := { name := "law", desc := "(IJIIII)Z", sig := { parameters := [.int, .long, .int, .int, .int, .int], returnType := some .boolean }, accessFlags := 9, code := some k1c1 }
def k1c2 : Code := { maxStack := 3, maxLocals := 4, code := method_3_code, exceptionTable := #[], attributes := #[] }
def k1m2 : Method := { name := "expected", desc := "([BIII)B", sig := { parameters := [(.array .byte), .int, .int, .int], returnType := some .byte }, accessFlags := 10, code := some k1c2 }
/-- com/example/kennel/kennel/Utf8BuilderTruncatePinLaw -/
def k1 : Class := { plain "com/example/kennel/kennel/Utf8BuilderTruncatePinLaw" (some 0) with
  accessFlags := 49
  interfaces := #[]
  cf := some (fileOf pool1 39 #[] #[{ accessFlags := 1, nameIndex := 5, descriptorIndex := 6, attributes := #[] }, { accessFlags := 9, nameIndex := 46, descriptorIndex := 47, attributes := #[] }, { accessFlags := 10, nameIndex := 42, descriptorIndex := 43, attributes := #[] }] 49 2 #[] #[])
  fields := #[]
  methods := #[k1m0, k1m1, k1m2]
  instanceTypes := #[]
  staticTypes := #[]
  resolved := Array.replicate 53 none
  statics := none }

def pool2 : Array CpInfo := pool [(3, .class_ 4), (0, u "com/example/kennel/kennel/Utf8Builder"), (3, u "<init>"), (0, u "(I)V"), (0, .methodref 11 12), (0, .class_ 13), (0, .nameAndType 8 14), (0, u "java/lang/Object"), (0, u "()V"), (0, .fieldref 3 16), (0, .nameAndType 17 18), (0, u "bytes"), (0, u "[B"), (0, .class_ 18), (0, .fieldref 3 21), (0, .nameAndType 22 23), (0, u "earlier"), (0, u "[[B"), (0, .fieldref 3 25), (0, .nameAndType 26 27), (0, u "earlierLengths"), (0, u "[I"), (0, .fieldref 3 29), (0, .nameAndType 30 31), (0, u "most"), (0, u "I"), (0, .fieldref 3 33), (0, .nameAndType 34 35), (0, u "before"), (0, u "J"), (0, .fieldref 3 37), (0, .nameAndType 38 31), (0, u "length"), (0, .methodref 3 40), (0, .nameAndType 41 42), (0, u "bytesFrom"), (0, u "(J)[B"), (0, .methodref 3 44), (0, .nameAndType 38 45), (0, u "()J"), (0, .class_ 47), (0, u "com/example/kennel/kennel/Utf8Builder$TooLargeException"), (1, .methodref 50 51), (0, .class_ 52), (0, .nameAndType 53 54), (0, u "java/util/Arrays"), (0, u "copyOfRange"), (0, u "([BII)[B"), (0, .methodref 56 57), (0, .class_ 58), (0, .nameAndType 59 60), (0, u "java/lang/System"), (0, u "arraycopy"), (0, u "(Ljava/lang/Object;ILjava/lang/Object;II)V"), (0, .fieldref 3 62), (0, .nameAndType 63 31), (0, u "earlierCount"), (0, .methodref 65 66), (0, .class_ 67), (0, .nameAndType 68 69), (0, u "java/lang/Math"), (0, u "max"), (0, u "(JJ)J"), (0, .methodref 3 71), (0, .nameAndType 72 73), (0, u "grow"), (0, u "(J)V"), (0, .long 4), (1, .methodref 3 77), (0, .nameAndType 78 73), (0, u "ensure"), (11, u "append"), (7, u "stretch"), (0, u "[C"), (2, u "min"), (18, u "NO_STOPS"), (0, u "[Z"), (6, .methodref 65 130), (0, .nameAndType 102 69), (41, u "appendBytes"), (0, u "([BII)Lcom/example/kennel/kennel/Utf8Builder;"), (9, .long 65536), (1, u "FIRST_CAPACITY"), (2, u "LARGEST_CHUNK"), (0, u "MOST_BYTES_PER_CHARACTER"), (1, u "STRETCH"), (1, u "LARGEST_ARRAY"), (0, u "SHORT_TEXT"), (3, u "toByteArray"), (0, u "()[B"), (1, u "truncate"), (0, u "(C)Lcom/example/kennel/kennel/Utf8Builder;")] 15

def k2m0 : Method := { name := "<init>", desc := "()V", sig := { parameters := [], returnType := none }, accessFlags := 0, code := none }
def k2c1 : Code := { maxStack := 2, maxLocals := 2, code := prog_48_method_2_code, exceptionTable := #[], attributes := #[] }
def k2m1 : Method := { name := "<init>", desc := "(I)V", sig := { parameters := [.int], returnType := none }, accessFlags := 0, code := some k2c1 }
def k2c2 : Code := { maxStack := 4, maxLocals := 1, code := prog_48_method_3_code, exceptionTable := #[], attributes := #[] }
def k2m2 : Method := { name := "length", desc := "()J", sig := { parameters := [], returnType := some .long }, accessFlags := 0, code := some k2c2 }
def k2c3 : Code := { maxStack := 3, maxLocals := 1, code := prog_48_method_4_code, exceptionTable := #[], attributes := #[] }
def k2m3 : Method := { name := "toByteArray", desc := "()[B", sig := { parameters := [], returnType := some (.array .byte) }, accessFlags := 0, code := some k2c3 }
def k2c4 : Code := { maxStack := 6, maxLocals := 10, code := prog_48_method_5_code, exceptionTable := #[], attributes := #[] }
def k2m4 : Method := { name := "bytesFrom", desc := "(J)[B", sig := { parameters := [.long], returnType := some (.array .byte) }, accessFlags := 0, code := some k2c4 }
def k2c5 : Code := { maxStack := 5, maxLocals := 3, code := prog_48_method_6_code, exceptionTable := #[], attributes := #[] }
def k2m5 : Method := { name := "truncate", desc := "(J)V", sig := { parameters := [.long], returnType := none }, accessFlags := 0, code := some k2c5 }
def k2c6 : Code := { maxStack := 5, maxLocals := 2, code := prog_48_method_7_code, exceptionTable := #[], attributes := #[] }
def k2m6 : Method := { name := "append", desc := "(C)Lcom/example/kennel/kennel/Utf8Builder;", sig := { parameters := [.char], returnType := some (.object "com/example/kennel/kennel/Utf8Builder") }, accessFlags := 0, code := some k2c6 }
def k2c7 : Code := { maxStack := 6, maxLocals := 4, code := prog_48_method_18_code, exceptionTable := #[], attributes := #[] }
def k2m7 : Method := { name := "appendBytes", desc := "([BII)Lcom/example/kennel/kennel/Utf8Builder;", sig := { parameters := [(.array .byte), .int, .int], returnType := some (.object "com/example/kennel/kennel/Utf8Builder") }, accessFlags := 0, code := some k2c7 }
def k2c8 : Code := { maxStack := 4, maxLocals := 3, code := prog_48_method_20_code, exceptionTable := #[], attributes := #[] }
def k2m8 : Method := { name := "ensure", desc := "(J)V", sig := { parameters := [.long], returnType := none }, accessFlags := 2, code := some k2c8 }
def k2c9 : Code := { maxStack := 7, maxLocals := 5, code := prog_48_method_21_code, exceptionTable := #[], attributes := #[] }
def k2m9 : Method := { name := "grow", desc := "(J)V", sig := { parameters := [.long], returnType := none }, accessFlags := 2, code := some k2c9 }
/-- com/example/kennel/kennel/Utf8Builder -/
def k2 : Class := { plain "com/example/kennel/kennel/Utf8Builder" (some 0) with
  accessFlags := 48
  interfaces := #[]
  cf := some (fileOf pool2 3 #[.nestMembers #[46]] #[{ accessFlags := 0, nameIndex := 8, descriptorIndex := 14, attributes := #[] }, { accessFlags := 0, nameIndex := 8, descriptorIndex := 9, attributes := #[] }, { accessFlags := 0, nameIndex := 38, descriptorIndex := 45, attributes := #[] }, { accessFlags := 0, nameIndex := 198, descriptorIndex := 199, attributes := #[] }, { accessFlags := 0, nameIndex := 41, descriptorIndex := 42, attributes := #[] }, { accessFlags := 0, nameIndex := 201, descriptorIndex := 73, attributes := #[] }, { accessFlags := 0, nameIndex := 90, descriptorIndex := 202, attributes := #[] }, { accessFlags := 0, nameIndex := 172, descriptorIndex := 173, attributes := #[] }, { accessFlags := 2, nameIndex := 78, descriptorIndex := 73, attributes := #[] }, { accessFlags := 2, nameIndex := 72, descriptorIndex := 73, attributes := #[] }] 48 11 #[] #[{ accessFlags := 26, nameIndex := 185, descriptorIndex := 31, attributes := #[] }, { accessFlags := 26, nameIndex := 188, descriptorIndex := 31, attributes := #[] }, { accessFlags := 26, nameIndex := 189, descriptorIndex := 31, attributes := #[] }, { accessFlags := 26, nameIndex := 191, descriptorIndex := 31, attributes := #[] }, { accessFlags := 24, nameIndex := 193, descriptorIndex := 31, attributes := #[] }, { accessFlags := 26, nameIndex := 121, descriptorIndex := 122, attributes := #[] }, { accessFlags := 26, nameIndex := 194, descriptorIndex := 31, attributes := #[] }, { accessFlags := 18, nameIndex := 30, descriptorIndex := 31, attributes := #[] }, { accessFlags := 2, nameIndex := 17, descriptorIndex := 18, attributes := #[] }, { accessFlags := 2, nameIndex := 38, descriptorIndex := 31, attributes := #[] }, { accessFlags := 2, nameIndex := 22, descriptorIndex := 23, attributes := #[] }, { accessFlags := 2, nameIndex := 26, descriptorIndex := 27, attributes := #[] }, { accessFlags := 2, nameIndex := 63, descriptorIndex := 31, attributes := #[] }, { accessFlags := 2, nameIndex := 34, descriptorIndex := 35, attributes := #[] }, { accessFlags := 2, nameIndex := 98, descriptorIndex := 99, attributes := #[] }])
  fields := #[{ name := "FIRST_CAPACITY", type := .int, accessFlags := 26, slot := 0, constantValue := 0 }, { name := "LARGEST_CHUNK", type := .int, accessFlags := 26, slot := 1, constantValue := 0 }, { name := "MOST_BYTES_PER_CHARACTER", type := .int, accessFlags := 26, slot := 2, constantValue := 0 }, { name := "STRETCH", type := .int, accessFlags := 26, slot := 3, constantValue := 0 }, { name := "LARGEST_ARRAY", type := .int, accessFlags := 24, slot := 4, constantValue := 0 }, { name := "NO_STOPS", type := (.array .boolean), accessFlags := 26, slot := 5, constantValue := 0 }, { name := "SHORT_TEXT", type := .int, accessFlags := 26, slot := 6, constantValue := 0 }, { name := "most", type := .int, accessFlags := 18, slot := 0, constantValue := 0 }, { name := "bytes", type := (.array .byte), accessFlags := 2, slot := 1, constantValue := 0 }, { name := "length", type := .int, accessFlags := 2, slot := 2, constantValue := 0 }, { name := "earlier", type := (.array (.array .byte)), accessFlags := 2, slot := 3, constantValue := 0 }, { name := "earlierLengths", type := (.array .int), accessFlags := 2, slot := 4, constantValue := 0 }, { name := "earlierCount", type := .int, accessFlags := 2, slot := 5, constantValue := 0 }, { name := "before", type := .long, accessFlags := 2, slot := 6, constantValue := 0 }, { name := "stretch", type := (.array .char), accessFlags := 2, slot := 7, constantValue := 0 }]
  methods := #[k2m0, k2m1, k2m2, k2m3, k2m4, k2m5, k2m6, k2m7, k2m8, k2m9]
  instanceTypes := #[.int, (.array .byte), .int, (.array (.array .byte)), (.array .int), .int, .long, (.array .char)]
  staticTypes := #[.int, .int, .int, .int, .int, (.array .boolean), .int]
  resolved := Array.replicate 218 none
  statics := none }

def pool3 : Array CpInfo := pool [(2, .class_ 4), (1, u "java/lang/Object"), (0, u "<init>"), (0, u "()V"), (1, .class_ 10), (1, u "java/lang/System"), (0, u "allowSecurityManager"), (0, u "I"), (16, u "cons"), (0, u "Ljava/io/Console;"), (77, .class_ 110), (1, u "java/lang/System$CallersHolder"), (43, u "initialErrStream"), (0, u "Ljava/io/PrintStream;"), (19, u "security"), (0, u "Ljava/lang/SecurityManager;"), (31, .class_ 209), (0, u "java/lang/System$1"), (7, u "props"), (0, u "Ljava/util/Properties;"), (2, u "lineSeparator"), (0, u "Ljava/lang/String;"), (96, .class_ 321), (1, u "java/lang/System$LoggerFinder"), (5, .class_ 328), (0, u "java/lang/System$Logger"), (67, u "err"), (2, u "out"), (91, u "notSupportedJnuEncoding"), (15, u "in"), (17, u "initialIn"), (0, u "Ljava/io/InputStream;"), (35, u "bootLayer"), (0, u "Ljava/lang/ModuleLayer;"), (99, .class_ 664), (0, u "java/lang/System$2"), (9, u "NEVER"), (2, u "MAYBE"), (49, u "arraycopy"), (0, u "(Ljava/lang/Object;ILjava/lang/Object;II)V"), (72, .class_ 802), (0, u "java/lang/System$Logger$Level")] 31

def k3m0 : Method := { name := "<init>", desc := "()V", sig := { parameters := [], returnType := none }, accessFlags := 2, code := none }
def k3m1 : Method := { name := "arraycopy", desc := "(Ljava/lang/Object;ILjava/lang/Object;II)V", sig := { parameters := [(.object "java/lang/Object"), .int, (.object "java/lang/Object"), .int, .int], returnType := none }, accessFlags := 265, code := none }
/-- java/lang/System -/
def k3 : Class := { plain "java/lang/System" (some 0) with
  accessFlags := 49
  interfaces := #[]
  cf := some (fileOf pool3 8 #[.nestMembers #[319, 327, 801, 108, 663, 208]] #[{ accessFlags := 2, nameIndex := 5, descriptorIndex := 6, attributes := #[] }, { accessFlags := 265, nameIndex := 727, descriptorIndex := 728, attributes := #[] }] 49 2 #[] #[{ accessFlags := 25, nameIndex := 507, descriptorIndex := 526, attributes := #[] }, { accessFlags := 25, nameIndex := 399, descriptorIndex := 155, attributes := #[] }, { accessFlags := 25, nameIndex := 396, descriptorIndex := 155, attributes := #[] }, { accessFlags := 10, nameIndex := 525, descriptorIndex := 526, attributes := #[] }, { accessFlags := 26, nameIndex := 674, descriptorIndex := 12, attributes := #[] }, { accessFlags := 26, nameIndex := 677, descriptorIndex := 12, attributes := #[] }, { accessFlags := 10, nameIndex := 11, descriptorIndex := 12, attributes := #[] }, { accessFlags := 74, nameIndex := 175, descriptorIndex := 176, attributes := #[] }, { accessFlags := 10, nameIndex := 491, descriptorIndex := 222, attributes := #[] }, { accessFlags := 74, nameIndex := 29, descriptorIndex := 30, attributes := #[] }, { accessFlags := 74, nameIndex := 154, descriptorIndex := 155, attributes := #[] }, { accessFlags := 10, nameIndex := 217, descriptorIndex := 218, attributes := #[] }, { accessFlags := 10, nameIndex := 221, descriptorIndex := 222, attributes := #[] }, { accessFlags := 8, nameIndex := 562, descriptorIndex := 563, attributes := #[] }])
  fields := #[{ name := "in", type := (.object "java/io/InputStream"), accessFlags := 25, slot := 0, constantValue := 0 }, { name := "out", type := (.object "java/io/PrintStream"), accessFlags := 25, slot := 1, constantValue := 0 }, { name := "err", type := (.object "java/io/PrintStream"), accessFlags := 25, slot := 2, constantValue := 0 }, { name := "initialIn", type := (.object "java/io/InputStream"), accessFlags := 10, slot := 3, constantValue := 0 }, { name := "NEVER", type := .int, accessFlags := 26, slot := 4, constantValue := 0 }, { name := "MAYBE", type := .int, accessFlags := 26, slot := 5, constantValue := 0 }, { name := "allowSecurityManager", type := .int, accessFlags := 10, slot := 6, constantValue := 0 }, { name := "security", type := (.object "java/lang/SecurityManager"), accessFlags := 74, slot := 7, constantValue := 0 }, { name := "notSupportedJnuEncoding", type := (.object "java/lang/String"), accessFlags := 10, slot := 8, constantValue := 0 }, { name := "cons", type := (.object "java/io/Console"), accessFlags := 74, slot := 9, constantValue := 0 }, { name := "initialErrStream", type := (.object "java/io/PrintStream"), accessFlags := 74, slot := 10, constantValue := 0 }, { name := "props", type := (.object "java/util/Properties"), accessFlags := 10, slot := 11, constantValue := 0 }, { name := "lineSeparator", type := (.object "java/lang/String"), accessFlags := 10, slot := 12, constantValue := 0 }, { name := "bootLayer", type := (.object "java/lang/ModuleLayer"), accessFlags := 8, slot := 13, constantValue := 0 }]
  methods := #[k3m0, k3m1]
  instanceTypes := #[]
  staticTypes := #[(.object "java/io/InputStream"), (.object "java/io/PrintStream"), (.object "java/io/PrintStream"), (.object "java/io/InputStream"), .int, .int, .int, (.object "java/lang/SecurityManager"), (.object "java/lang/String"), (.object "java/io/Console"), (.object "java/io/PrintStream"), (.object "java/util/Properties"), (.object "java/lang/String"), (.object "java/lang/ModuleLayer")]
  resolved := Array.replicate 834 none
  statics := none }

def pool4 : Array CpInfo := pool [(2, .class_ 4), (1, u "java/lang/Object"), (0, u "<init>"), (0, u "()V"), (7, .class_ 16), (1, u "java/util/Arrays"), (57, .class_ 76), (1, u "java/util/Arrays$NaturalOrder"), (32, u "()Ljava/lang/Object;"), (3, .class_ 115), (1, u "java/util/Arrays$LegacyMergeSort"), (1, u "Z"), (10, .nameAndType 129 109), (0, u "clone"), (9, u "copyOfRange"), (10, .methodref 151 152), (0, .class_ 153), (0, .nameAndType 154 155), (0, u "java/lang/System"), (0, u "arraycopy"), (0, u "(Ljava/lang/Object;ILjava/lang/Object;II)V"), (148, .methodref 305 306), (0, .class_ 307), (0, .nameAndType 308 309), (0, u "java/lang/Math"), (0, u "min"), (0, u "(II)I"), (0, .methodref 311 128), (0, .class_ 312), (0, u "[B"), (26, .methodref 14 340), (0, .nameAndType 341 342), (0, u "copyOfRangeByte"), (0, u "([BII)[B"), (0, .methodref 14 344), (0, .nameAndType 345 346), (0, u "checkLength"), (0, u "(II)V"), (28, .class_ 376), (0, u "java/util/Arrays$ArrayList"), (68, u "$assertionsDisabled"), (269, u "MIN_ARRAY_SORT_GRAN"), (0, u "I"), (2, u "INSERTIONSORT_THRESHOLD"), (255, .class_ 976), (0, u "java/util/Arrays$ArrayItr")] 52

def k4m0 : Method := { name := "<init>", desc := "()V", sig := { parameters := [], returnType := none }, accessFlags := 2, code := none }
def k4c1 : Code := { maxStack := 4, maxLocals := 2, code := jdk_65_method_131_code, exceptionTable := #[], attributes := #[] }
def k4m1 : Method := { name := "checkLength", desc := "(II)V", sig := { parameters := [.int, .int], returnType := none }, accessFlags := 10, code := some k4c1 }
def k4c2 : Code := { maxStack := 3, maxLocals := 3, code := jdk_65_method_132_code, exceptionTable := #[], attributes := #[] }
def k4m2 : Method := { name := "copyOfRange", desc := "([BII)[B", sig := { parameters := [(.array .byte), .int, .int], returnType := some (.array .byte) }, accessFlags := 9, code := some k4c2 }
def k4c3 : Code := { maxStack := 6, maxLocals := 5, code := jdk_65_method_133_code, exceptionTable := #[], attributes := #[] }
def k4m3 : Method := { name := "copyOfRangeByte", desc := "([BII)[B", sig := { parameters := [(.array .byte), .int, .int], returnType := some (.array .byte) }, accessFlags := 10, code := some k4c3 }
/-- java/util/Arrays -/
def k4 : Class := { plain "java/util/Arrays" (some 0) with
  accessFlags := 49
  interfaces := #[]
  cf := some (fileOf pool4 14 #[.nestMembers #[975, 375, 113, 74]] #[{ accessFlags := 2, nameIndex := 5, descriptorIndex := 6, attributes := #[] }, { accessFlags := 10, nameIndex := 345, descriptorIndex := 346, attributes := #[] }, { accessFlags := 9, nameIndex := 139, descriptorIndex := 342, attributes := #[] }, { accessFlags := 10, nameIndex := 341, descriptorIndex := 342, attributes := #[] }] 49 2 #[] #[{ accessFlags := 26, nameIndex := 715, descriptorIndex := 716, attributes := #[] }, { accessFlags := 26, nameIndex := 719, descriptorIndex := 716, attributes := #[] }, { accessFlags := 4120, nameIndex := 445, descriptorIndex := 117, attributes := #[] }])
  fields := #[{ name := "MIN_ARRAY_SORT_GRAN", type := .int, accessFlags := 26, slot := 0, constantValue := 0 }, { name := "INSERTIONSORT_THRESHOLD", type := .int, accessFlags := 26, slot := 1, constantValue := 0 }, { name := "$assertionsDisabled", type := .boolean, accessFlags := 4120, slot := 2, constantValue := 0 }]
  methods := #[k4m0, k4m1, k4m2, k4m3]
  instanceTypes := #[]
  staticTypes := #[.int, .int, .boolean]
  resolved := Array.replicate 1029 none
  statics := none }

def pool5 : Array CpInfo := pool [(1, .class_ 2), (0, u "java/lang/Math"), (1, .class_ 6), (1, u "java/lang/Object"), (0, u "<init>"), (0, u "()V"), (89, .class_ 100), (1, u "java/lang/Math$RandomNumberGeneratorHolder"), (20, u "(JJ)J"), (50, u "negativeZeroFloatBits"), (0, u "J"), (2, u "negativeZeroDoubleBits"), (21, u "max"), (2, u "min"), (43, u "$assertionsDisabled"), (0, u "Z"), (88, u "(II)I"), (2, u "twoToTheDoubleScaleDown"), (0, u "D"), (4, u "twoToTheDoubleScaleUp"), (9, u "E"), (3, u "PI"), (2, u "TAU"), (2, u "DEGREES_TO_RADIANS"), (0, u "RADIANS_TO_DEGREES")] 94

def k5m0 : Method := { name := "<init>", desc := "()V", sig := { parameters := [], returnType := none }, accessFlags := 2, code := none }
def k5c1 : Code := { maxStack := 4, maxLocals := 4, code := jdk_29_method_66_code, exceptionTable := #[], attributes := #[] }
def k5m1 : Method := { name := "max", desc := "(JJ)J", sig := { parameters := [.long, .long], returnType := some .long }, accessFlags := 9, code := some k5c1 }
def k5c2 : Code := { maxStack := 2, maxLocals := 2, code := jdk_29_method_69_code, exceptionTable := #[], attributes := #[] }
def k5m2 : Method := { name := "min", desc := "(II)I", sig := { parameters := [.int, .int], returnType := some .int }, accessFlags := 9, code := some k5c2 }
def k5c3 : Code := { maxStack := 4, maxLocals := 4, code := jdk_29_method_70_code, exceptionTable := #[], attributes := #[] }
def k5m3 : Method := { name := "min", desc := "(JJ)J", sig := { parameters := [.long, .long], returnType := some .long }, accessFlags := 9, code := some k5c3 }
/-- java/lang/Math -/
def k5 : Class := { plain "java/lang/Math" (some 0) with
  accessFlags := 49
  interfaces := #[]
  cf := some (fileOf pool5 1 #[.nestMembers #[98]] #[{ accessFlags := 2, nameIndex := 7, descriptorIndex := 8, attributes := #[] }, { accessFlags := 9, nameIndex := 198, descriptorIndex := 121, attributes := #[] }, { accessFlags := 9, nameIndex := 201, descriptorIndex := 335, attributes := #[] }, { accessFlags := 9, nameIndex := 201, descriptorIndex := 121, attributes := #[] }] 49 4 #[] #[{ accessFlags := 25, nameIndex := 354, descriptorIndex := 339, attributes := #[] }, { accessFlags := 25, nameIndex := 358, descriptorIndex := 339, attributes := #[] }, { accessFlags := 25, nameIndex := 361, descriptorIndex := 339, attributes := #[] }, { accessFlags := 26, nameIndex := 364, descriptorIndex := 339, attributes := #[] }, { accessFlags := 26, nameIndex := 365, descriptorIndex := 339, attributes := #[] }, { accessFlags := 26, nameIndex := 172, descriptorIndex := 173, attributes := #[] }, { accessFlags := 26, nameIndex := 176, descriptorIndex := 173, attributes := #[] }, { accessFlags := 8, nameIndex := 344, descriptorIndex := 339, attributes := #[] }, { accessFlags := 8, nameIndex := 338, descriptorIndex := 339, attributes := #[] }, { accessFlags := 4120, nameIndex := 245, descriptorIndex := 246, attributes := #[] }])
  fields := #[{ name := "E", type := .double, accessFlags := 25, slot := 0, constantValue := 0 }, { name := "PI", type := .double, accessFlags := 25, slot := 1, constantValue := 0 }, { name := "TAU", type := .double, accessFlags := 25, slot := 2, constantValue := 0 }, { name := "DEGREES_TO_RADIANS", type := .double, accessFlags := 26, slot := 3, constantValue := 0 }, { name := "RADIANS_TO_DEGREES", type := .double, accessFlags := 26, slot := 4, constantValue := 0 }, { name := "negativeZeroFloatBits", type := .long, accessFlags := 26, slot := 5, constantValue := 0 }, { name := "negativeZeroDoubleBits", type := .long, accessFlags := 26, slot := 6, constantValue := 0 }, { name := "twoToTheDoubleScaleUp", type := .double, accessFlags := 8, slot := 7, constantValue := 0 }, { name := "twoToTheDoubleScaleDown", type := .double, accessFlags := 8, slot := 8, constantValue := 0 }, { name := "$assertionsDisabled", type := .boolean, accessFlags := 4120, slot := 9, constantValue := 0 }]
  methods := #[k5m0, k5m1, k5m2, k5m3]
  instanceTypes := #[]
  staticTypes := #[.double, .double, .double, .double, .double, .long, .long, .double, .double, .boolean]
  resolved := Array.replicate 460 none
  statics := none }

def pool6 : Array CpInfo := pool [(1, .class_ 2), (0, u "java/lang/Cloneable"), (0, .class_ 4), (0, u "java/lang/Object")] 2

/-- java/lang/Cloneable -/
def k6 : Class := { plain "java/lang/Cloneable" (some 0) with
  accessFlags := 1537
  interfaces := #[]
  cf := some (fileOf pool6 1 #[] #[] 1537 3 #[] #[])
  fields := #[]
  methods := #[]
  instanceTypes := #[]
  staticTypes := #[]
  resolved := Array.replicate 7 none
  statics := none }

def pool7 : Array CpInfo := pool [(1, u "java/io/Serializable"), (0, .class_ 1), (0, u "java/lang/Object"), (0, .class_ 3)] 3

/-- java/io/Serializable -/
def k7 : Class := { plain "java/io/Serializable" (some 0) with
  accessFlags := 1537
  interfaces := #[]
  cf := some (fileOf pool7 2 #[] #[] 1537 4 #[] #[])
  fields := #[]
  methods := #[]
  instanceTypes := #[]
  staticTypes := #[]
  resolved := Array.replicate 8 none
  statics := none }

/-- the primitive byte -/
def k8 : Class := { plain "byte" none with kind := .primitive 'B', accessFlags := 0x411 }
/-- [B -/
def k9 : Class := { plain "[B" (some 0) with kind := .array 8 .byte, interfaces := #[6, 7], accessFlags := 1041 }

/-- the primitive int -/
def k10 : Class := { plain "int" none with kind := .primitive 'I', accessFlags := 0x411 }
/-- [I -/
def k11 : Class := { plain "[I" (some 0) with kind := .array 10 .int, interfaces := #[6, 7], accessFlags := 1041 }

/-- [[B -/
def k12 : Class := { plain "[[B" (some 0) with kind := .array 9 (.array .byte), interfaces := #[6, 7], accessFlags := 1041 }

def heap : Heap := #[]
def classes : Array Class := #[k0, k1, k2, k3, k4, k5, k6, k7, k8, k9, k10, k11, k12]
def interned : List (Array UInt16 × Addr) := []
def slotsUsed : Nat := 0
def theMethod : MethodId := ⟨1, 1⟩
def args0 : Array Value := #[.int 5, .long 6, .int 7, .int 9, .int 2, .int 65]
def aboutOver (below : List Frame) : State where
  vm := { classes := classes, interned := interned.toArray }
  heap := heap
  slotsUsed := slotsUsed
  threads := #[{ frames := .invoking theMethod args0 :: below }]
def below0 : List Frame := [.native { method := ⟨0, 0⟩, args := #[] }]
def about1 : State := aboutOver below0
def p0 : Program := .bare "" "" ""
def e0 : Env := launch0.env 0 0 0
theorem w_frames : about1.frames = Frame.invoking theMethod args0 :: below0 := rfl
set_option maxRecDepth 65536 in
theorem w_args : argsFit about1.vm theMethod args0 = true := by decide +kernel
set_option maxRecDepth 65536 in
theorem w_heap : heapFits about1 = true := by decide +kernel
set_option maxRecDepth 65536 in
theorem w_runnable : about1.curStatus? = some .runnable := by decide +kernel
set_option maxRecDepth 65536 in
theorem w_alone : about1.alone = true := by decide +kernel
set_option maxRecDepth 65536 in
theorem w_named : about1.methodNamed? x = some theMethod := by decide +kernel
set_option maxRecDepth 65536 in
theorem w_hears : about1.hears theMethod below0 = true := by decide +kernel
set_option maxRecDepth 65536 in
theorem w_ripe : about1.ripe theMethod args0 below0 = true := by decide +kernel
theorem w_running : about1.status = .running := rfl
set_option maxRecDepth 65536 in
theorem w_room : about1.hasRoom e0.platform room_1 = true :=
  launch0.hasRoom_least _ room_1 (by decide +kernel) (by decide +kernel) (by decide +kernel) (by decide +kernel) (by decide +kernel) (by decide +kernel)
theorem allAtoms_all (ts : List Jvm.Cond) (a : Array Jvm.Value) (st : Jvm.State) : (allAtoms ts).before a st = ts.all (fun c => c.before a st) := by
  induction ts with
  | nil => rfl
  | cons c t ih =>
    show (Jvm.Cond.and c (allAtoms t)).before a st = _
    rw [Jvm.Cond.before_and, ih, List.all_cons]
def words1 : List Jvm.Cond := Jvm.Cond.code x code maxLocals ret :: tables_1
/-- a 'code' word, met by the world's own term for the bytes: nothing is compared byte by byte -/
theorem code_word {y : MethodName} {bytes : ByteArray} {mx : Nat} {rt : Option FieldType} {a : Array Value} {s : State} {m : MethodId} {meth : Method} {c : Code} (h1 : s.methodNamed? y = some m) (h2 : s.vm.method? m = some meth) (h3 : meth.code = some c) (h4 : c.code = bytes)
    (h5 : (c.maxLocals == mx && c.exceptionTable.isEmpty && decide (c.maxStack ≤ mostOperands) && decide (meth.sig.returnType = rt) && !meth.locks && decide (parseMethodDescriptor y.desc = some meth.sig)) = true) : (Jvm.Cond.code y bytes mx rt).before a s = true := by
  simp only [Bool.and_eq_true, beq_iff_eq, Bool.not_eq_true', decide_eq_true_eq] at h5
  obtain ⟨⟨⟨⟨⟨g1, g2⟩, g3⟩, g4⟩, g5⟩, g6⟩ := h5
  simp [Cond.before, Cond.holds, Cond.value, h1, h2, h3, h4, g1, g2, g3, g4, g5, g6]
def isCode : Jvm.Cond → Bool
  | .code _ _ _ _ => true
  | _ => false
theorem all_split {L : List Jvm.Cond} {P : Jvm.Cond → Bool} (h1 : L.all (fun c => isCode c || P c) = true) (h2 : ∀ c ∈ L.filter isCode, P c = true) : L.all P = true := by
  refine List.all_eq_true.mpr fun c hc => ?_
  have h := List.all_eq_true.mp h1 c hc
  rcases Bool.eq_false_or_eq_true (isCode c) with hi | hi
  · exact h2 c (List.mem_filter.mpr ⟨hc, hi⟩)
  · simpa [hi] using h
set_option maxRecDepth 65536 in
theorem w_c0 : (Jvm.Cond.code x code maxLocals ret).before args0 about1 = true := code_word (m := ⟨1, 1⟩) (meth := k1m1) (c := k1c1) (by decide +kernel) rfl rfl rfl (by decide +kernel)
set_option maxRecDepth 65536 in
theorem w_c1 : (Jvm.Cond.code ({ cls := "com/example/kennel/kennel/Utf8Builder", name := "<init>", desc := "(I)V" } : Jvm.MethodName) prog_48_method_2_code (2 : Nat) (Option.none : Option Jvm.ClassFile.FieldType)).before args0 about1 = true := code_word (m := ⟨2, 1⟩) (meth := k2m1) (c := k2c1) (by decide +kernel) rfl rfl rfl (by decide +kernel)
set_option maxRecDepth 65536 in
theorem w_c2 : (Jvm.Cond.code ({ cls := "java/lang/Object", name := "<init>", desc := "()V" } : Jvm.MethodName) object_method_1_code (1 : Nat) (Option.none : Option Jvm.ClassFile.FieldType)).before args0 about1 = true := code_word (m := ⟨0, 0⟩) (meth := k0m0) (c := k0c0) (by decide +kernel) rfl rfl rfl (by decide +kernel)
set_option maxRecDepth 65536 in
theorem w_c3 : (Jvm.Cond.code ({ cls := "com/example/kennel/kennel/Utf8Builder", name := "appendBytes", desc := "([BII)Lcom/example/kennel/kennel/Utf8Builder;" } : Jvm.MethodName) prog_48_method_18_code (4 : Nat) (Option.some (Jvm.ClassFile.FieldType.object "com/example/kennel/kennel/Utf8Builder"))).before args0 about1 = true := code_word (m := ⟨2, 7⟩) (meth := k2m7) (c := k2c7) (by decide +kernel) rfl rfl rfl (by decide +kernel)
set_option maxRecDepth 65536 in
theorem w_c4 : (Jvm.Cond.code ({ cls := "com/example/kennel/kennel/Utf8Builder", name := "ensure", desc := "(J)V" } : Jvm.MethodName) prog_48_method_20_code (3 : Nat) (Option.none : Option Jvm.ClassFile.FieldType)).before args0 about1 = true := code_word (m := ⟨2, 8⟩) (meth := k2m8) (c := k2c8) (by decide +kernel) rfl rfl rfl (by decide +kernel)
set_option maxRecDepth 65536 in
theorem w_c5 : (Jvm.Cond.code ({ cls := "com/example/kennel/kennel/Utf8Builder", name := "truncate", desc := "(J)V" } : Jvm.MethodName) prog_48_method_6_code (3 : Nat) (Option.none : Option Jvm.ClassFile.FieldType)).before args0 about1 = true := code_word (m := ⟨2, 5⟩) (meth := k2m5) (c := k2c5) (by decide +kernel) rfl rfl rfl (by decide +kernel)
set_option maxRecDepth 65536 in
theorem w_c6 : (Jvm.Cond.code ({ cls := "com/example/kennel/kennel/Utf8Builder", name := "length", desc := "()J" } : Jvm.MethodName) prog_48_method_3_code (1 : Nat) (Option.some Jvm.ClassFile.FieldType.long)).before args0 about1 = true := code_word (m := ⟨2, 2⟩) (meth := k2m2) (c := k2c2) (by decide +kernel) rfl rfl rfl (by decide +kernel)
set_option maxRecDepth 65536 in
theorem w_c7 : (Jvm.Cond.code ({ cls := "com/example/kennel/kennel/Utf8Builder", name := "append", desc := "(C)Lcom/example/kennel/kennel/Utf8Builder;" } : Jvm.MethodName) prog_48_method_7_code (2 : Nat) (Option.some (Jvm.ClassFile.FieldType.object "com/example/kennel/kennel/Utf8Builder"))).before args0 about1 = true := code_word (m := ⟨2, 6⟩) (meth := k2m6) (c := k2c6) (by decide +kernel) rfl rfl rfl (by decide +kernel)
set_option maxRecDepth 65536 in
theorem w_c8 : (Jvm.Cond.code ({ cls := "com/example/kennel/kennel/Utf8Builder", name := "toByteArray", desc := "()[B" } : Jvm.MethodName) prog_48_method_4_code (1 : Nat) (Option.some (Jvm.ClassFile.FieldType.array Jvm.ClassFile.FieldType.byte))).before args0 about1 = true := code_word (m := ⟨2, 3⟩) (meth := k2m3) (c := k2c3) (by decide +kernel) rfl rfl rfl (by decide +kernel)
set_option maxRecDepth 65536 in
theorem w_c9 : (Jvm.Cond.code ({ cls := "com/example/kennel/kennel/Utf8Builder", name := "bytesFrom", desc := "(J)[B" } : Jvm.MethodName) prog_48_method_5_code (10 : Nat) (Option.some (Jvm.ClassFile.FieldType.array Jvm.ClassFile.FieldType.byte))).before args0 about1 = true := code_word (m := ⟨2, 4⟩) (meth := k2m4) (c := k2c4) (by decide +kernel) rfl rfl rfl (by decide +kernel)
set_option maxRecDepth 65536 in
theorem w_c10 : (Jvm.Cond.code ({ cls := "java/util/Arrays", name := "copyOfRange", desc := "([BII)[B" } : Jvm.MethodName) jdk_65_method_132_code (3 : Nat) (Option.some (Jvm.ClassFile.FieldType.array Jvm.ClassFile.FieldType.byte))).before args0 about1 = true := code_word (m := ⟨4, 2⟩) (meth := k4m2) (c := k4c2) (by decide +kernel) rfl rfl rfl (by decide +kernel)
set_option maxRecDepth 65536 in
theorem w_c11 : (Jvm.Cond.code ({ cls := "java/util/Arrays", name := "copyOfRangeByte", desc := "([BII)[B" } : Jvm.MethodName) jdk_65_method_133_code (5 : Nat) (Option.some (Jvm.ClassFile.FieldType.array Jvm.ClassFile.FieldType.byte))).before args0 about1 = true := code_word (m := ⟨4, 3⟩) (meth := k4m3) (c := k4c3) (by decide +kernel) rfl rfl rfl (by decide +kernel)
set_option maxRecDepth 65536 in
theorem w_c12 : (Jvm.Cond.code ({ cls := "java/util/Arrays", name := "checkLength", desc := "(II)V" } : Jvm.MethodName) jdk_65_method_131_code (2 : Nat) (Option.none : Option Jvm.ClassFile.FieldType)).before args0 about1 = true := code_word (m := ⟨4, 1⟩) (meth := k4m1) (c := k4c1) (by decide +kernel) rfl rfl rfl (by decide +kernel)
set_option maxRecDepth 65536 in
theorem w_c13 : (Jvm.Cond.code ({ cls := "java/lang/Math", name := "min", desc := "(II)I" } : Jvm.MethodName) jdk_29_method_69_code (2 : Nat) (Option.some Jvm.ClassFile.FieldType.int)).before args0 about1 = true := code_word (m := ⟨5, 2⟩) (meth := k5m2) (c := k5c2) (by decide +kernel) rfl rfl rfl (by decide +kernel)
set_option maxRecDepth 65536 in
theorem w_c14 : (Jvm.Cond.code ({ cls := "com/example/kennel/kennel/Utf8BuilderTruncatePinLaw", name := "expected", desc := "([BIII)B" } : Jvm.MethodName) method_3_code (4 : Nat) (Option.some Jvm.ClassFile.FieldType.byte)).before args0 about1 = true := code_word (m := ⟨1, 2⟩) (meth := k1m2) (c := k1c2) (by decide +kernel) rfl rfl rfl (by decide +kernel)
set_option maxRecDepth 65536 in
theorem w_c15 : (Jvm.Cond.code ({ cls := "com/example/kennel/kennel/Utf8Builder", name := "grow", desc := "(J)V" } : Jvm.MethodName) prog_48_method_21_code (5 : Nat) (Option.none : Option Jvm.ClassFile.FieldType)).before args0 about1 = true := code_word (m := ⟨2, 9⟩) (meth := k2m9) (c := k2c9) (by decide +kernel) rfl rfl rfl (by decide +kernel)
set_option maxRecDepth 65536 in
theorem w_c16 : (Jvm.Cond.code ({ cls := "java/lang/Math", name := "min", desc := "(JJ)J" } : Jvm.MethodName) jdk_29_method_70_code (4 : Nat) (Option.some Jvm.ClassFile.FieldType.long)).before args0 about1 = true := code_word (m := ⟨5, 3⟩) (meth := k5m3) (c := k5c3) (by decide +kernel) rfl rfl rfl (by decide +kernel)
set_option maxRecDepth 65536 in
theorem w_c17 : (Jvm.Cond.code ({ cls := "java/lang/Math", name := "max", desc := "(JJ)J" } : Jvm.MethodName) jdk_29_method_66_code (4 : Nat) (Option.some Jvm.ClassFile.FieldType.long)).before args0 about1 = true := code_word (m := ⟨5, 1⟩) (meth := k5m1) (c := k5c1) (by decide +kernel) rfl rfl rfl (by decide +kernel)
def codes1 : List Jvm.Cond := [Jvm.Cond.code x code maxLocals ret, Jvm.Cond.code ({ cls := "com/example/kennel/kennel/Utf8Builder", name := "<init>", desc := "(I)V" } : Jvm.MethodName) prog_48_method_2_code (2 : Nat) (Option.none : Option Jvm.ClassFile.FieldType), Jvm.Cond.code ({ cls := "java/lang/Object", name := "<init>", desc := "()V" } : Jvm.MethodName) object_method_1_code (1 : Nat) (Option.none : Option Jvm.ClassFile.FieldType), Jvm.Cond.code ({ cls := "com/example/kennel/kennel/Utf8Builder", name := "appendBytes", desc := "([BII)Lcom/example/kennel/kennel/Utf8Builder;" } : Jvm.MethodName) prog_48_method_18_code (4 : Nat) (Option.some (Jvm.ClassFile.FieldType.object "com/example/kennel/kennel/Utf8Builder")), Jvm.Cond.code ({ cls := "com/example/kennel/kennel/Utf8Builder", name := "ensure", desc := "(J)V" } : Jvm.MethodName) prog_48_method_20_code (3 : Nat) (Option.none : Option Jvm.ClassFile.FieldType), Jvm.Cond.code ({ cls := "com/example/kennel/kennel/Utf8Builder", name := "truncate", desc := "(J)V" } : Jvm.MethodName) prog_48_method_6_code (3 : Nat) (Option.none : Option Jvm.ClassFile.FieldType), Jvm.Cond.code ({ cls := "com/example/kennel/kennel/Utf8Builder", name := "length", desc := "()J" } : Jvm.MethodName) prog_48_method_3_code (1 : Nat) (Option.some Jvm.ClassFile.FieldType.long), Jvm.Cond.code ({ cls := "com/example/kennel/kennel/Utf8Builder", name := "append", desc := "(C)Lcom/example/kennel/kennel/Utf8Builder;" } : Jvm.MethodName) prog_48_method_7_code (2 : Nat) (Option.some (Jvm.ClassFile.FieldType.object "com/example/kennel/kennel/Utf8Builder")), Jvm.Cond.code ({ cls := "com/example/kennel/kennel/Utf8Builder", name := "toByteArray", desc := "()[B" } : Jvm.MethodName) prog_48_method_4_code (1 : Nat) (Option.some (Jvm.ClassFile.FieldType.array Jvm.ClassFile.FieldType.byte)), Jvm.Cond.code ({ cls := "com/example/kennel/kennel/Utf8Builder", name := "bytesFrom", desc := "(J)[B" } : Jvm.MethodName) prog_48_method_5_code (10 : Nat) (Option.some (Jvm.ClassFile.FieldType.array Jvm.ClassFile.FieldType.byte)), Jvm.Cond.code ({ cls := "java/util/Arrays", name := "copyOfRange", desc := "([BII)[B" } : Jvm.MethodName) jdk_65_method_132_code (3 : Nat) (Option.some (Jvm.ClassFile.FieldType.array Jvm.ClassFile.FieldType.byte)), Jvm.Cond.code ({ cls := "java/util/Arrays", name := "copyOfRangeByte", desc := "([BII)[B" } : Jvm.MethodName) jdk_65_method_133_code (5 : Nat) (Option.some (Jvm.ClassFile.FieldType.array Jvm.ClassFile.FieldType.byte)), Jvm.Cond.code ({ cls := "java/util/Arrays", name := "checkLength", desc := "(II)V" } : Jvm.MethodName) jdk_65_method_131_code (2 : Nat) (Option.none : Option Jvm.ClassFile.FieldType), Jvm.Cond.code ({ cls := "java/lang/Math", name := "min", desc := "(II)I" } : Jvm.MethodName) jdk_29_method_69_code (2 : Nat) (Option.some Jvm.ClassFile.FieldType.int), Jvm.Cond.code ({ cls := "com/example/kennel/kennel/Utf8BuilderTruncatePinLaw", name := "expected", desc := "([BIII)B" } : Jvm.MethodName) method_3_code (4 : Nat) (Option.some Jvm.ClassFile.FieldType.byte), Jvm.Cond.code ({ cls := "com/example/kennel/kennel/Utf8Builder", name := "grow", desc := "(J)V" } : Jvm.MethodName) prog_48_method_21_code (5 : Nat) (Option.none : Option Jvm.ClassFile.FieldType), Jvm.Cond.code ({ cls := "java/lang/Math", name := "min", desc := "(JJ)J" } : Jvm.MethodName) jdk_29_method_70_code (4 : Nat) (Option.some Jvm.ClassFile.FieldType.long), Jvm.Cond.code ({ cls := "java/lang/Math", name := "max", desc := "(JJ)J" } : Jvm.MethodName) jdk_29_method_66_code (4 : Nat) (Option.some Jvm.ClassFile.FieldType.long)]
set_option maxRecDepth 65536 in
theorem codes_eq : words1.filter isCode = codes1 := rfl
theorem w_codes : ∀ c ∈ words1.filter isCode, c.before args0 about1 = true := by
  rw [codes_eq]
  intro c hc
  simp only [codes1, List.mem_cons, List.not_mem_nil, or_false] at hc
  rcases hc with rfl | rfl | rfl | rfl | rfl | rfl | rfl | rfl | rfl | rfl | rfl | rfl | rfl | rfl | rfl | rfl | rfl | rfl
  · exact w_c0
  · exact w_c1
  · exact w_c2
  · exact w_c3
  · exact w_c4
  · exact w_c5
  · exact w_c6
  · exact w_c7
  · exact w_c8
  · exact w_c9
  · exact w_c10
  · exact w_c11
  · exact w_c12
  · exact w_c13
  · exact w_c14
  · exact w_c15
  · exact w_c16
  · exact w_c17
set_option maxRecDepth 65536 in
theorem w_t1 : (words1.take 24).all (fun c => isCode c || c.before args0 about1) = true := by decide +kernel
set_option maxRecDepth 65536 in
theorem w_t2 : ((words1.drop 24).take 24).all (fun c => isCode c || c.before args0 about1) = true := by decide +kernel
set_option maxRecDepth 65536 in
theorem w_t3 : (((words1.drop 24).drop 24).take 24).all (fun c => isCode c || c.before args0 about1) = true := by decide +kernel
set_option maxRecDepth 65536 in
theorem w_t4 : ((((words1.drop 24).drop 24).drop 24).take 24).all (fun c => isCode c || c.before args0 about1) = true := by decide +kernel
set_option maxRecDepth 65536 in
theorem w_t5 : ((((words1.drop 24).drop 24).drop 24).drop 24).all (fun c => isCode c || c.before args0 about1) = true := by decide +kernel
theorem w_tables : (allAtoms (Jvm.Cond.code x code maxLocals ret :: tables_1)).before args0 about1 = true := by
  rw [allAtoms_all]
  show words1.all (fun c => c.before args0 about1) = true
  refine all_split ?_ w_codes
  rw [← List.take_append_drop 24 words1, List.all_append, w_t1, ← List.take_append_drop 24 (words1.drop 24), List.all_append, w_t2, ← List.take_append_drop 24 ((words1.drop 24).drop 24), List.all_append, w_t3, ← List.take_append_drop 24 (((words1.drop 24).drop 24).drop 24), List.all_append, w_t4, w_t5]
  rfl
set_option maxRecDepth 65536 in
theorem w_case : (Jvm.Cond.and given_1 narrow_1).before args0 about1 = true := by decide +kernel
theorem w_applies : (headSpec (Jvm.Cond.code x code maxLocals ret :: tables_1) room_1).applies x e0.platform about1 = true :=
  (Spec.applies_iff w_frames).mpr ⟨w_running, w_runnable, w_alone, w_named, w_hears, w_ripe, w_room, w_tables⟩
theorem atStart : AtStart classFile x code maxLocals ret World_1 tables_1 room_1 Calls_1 rest_1 Pre_1 launch0 p0 e0 about1 theMethod args0 below0 :=
  ⟨lists_1, trivial, launch0.admits_env _ _ _, launch0.least_env, fairChoices_fair.cas, fairChoices_fair.clock, w_frames, w_args, w_heap, w_applies, trivial, trivial, w_case⟩
end start1
theorem witness_1 : WitnessClaimed_1 := ⟨start1.p0, start1.e0, start1.about1, start1.theMethod, start1.args0, start1.below0, start1.atStart⟩
end Jvm.Pilot.@@N@@
