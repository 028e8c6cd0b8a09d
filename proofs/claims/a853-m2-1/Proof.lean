import JvmDerived
import JvmDerived.Pilot.@@N@@Statement
import JvmDerived.Pilot.@@N@@Code
set_option linter.unusedVariables false
set_option linter.unusedSimpArgs false
@@BLOCK:NumsL.lean.txt@@
namespace Jvm.RoadKit
open Sem ClassFile Op Lib Jvm.Stand Jvm.Free Jvm.LawKit
section Own
variable {p : Program} {l : Launch} {e : Env} {R : Room} {s : State} {m : MethodId} {args : Array Value} {below : List Frame} {meth : Method} {c : Code} {T : State} {locs : List Loc} {cells slots : Nat} {Z : State} {a0 : Array Value} {h : Heap}
/-- from the state F the walked method comes to its end, and Q holds there -/
def own_Out (p : Program) (e : Env) (below : List Frame) (Q : Outcome → State → Prop) (F : State) : Prop :=
  ∃ s₂ o, Steps p.tables e below F s₂ ∧ s₂.status = .running ∧ Ended s₂ below o ∧ Q o s₂
/-- what a contract says of the end, out of a statement on the value, the heap and the written places -/
def own_Q (Q : Option Value → Heap → List Loc → Prop) (s : State) (k n : Nat) : Outcome → State → Prop :=
  fun o U => ∃ v L, o = .returned v ∧ Q v U.heap L ∧ FrameEnd s o U L k n
theorem own_st {Q : Outcome → State → Prop} {F G : State} (h : ∀ t, Steps p.tables e below G t → Steps p.tables e below F t) (k : own_Out p e below Q G) : own_Out p e below Q F := by
  obtain ⟨s2, o, h1, h2⟩ := k
  exact ⟨s2, o, h _ h1, h2⟩
theorem own_tr {Q : Outcome → State → Prop} {F G : State} (h : Steps p.tables e below F G) (k : own_Out p e below Q G) : own_Out p e below Q F :=
  own_st (fun _ q => h.trans q) k
theorem own_retB (X : Stand p l e R s m args below meth c T locs cells slots) (hx : p.tables.exec = Jvm.exec) {Q : Option Value → Heap → List Loc → Prop} {k n : Nat} {pc : Nat} {Ls : Array Slot} {z : Int32} {t : FieldType} {rest : List Value}
    (hret : meth.sig.returnType = some t) (ht : t = .boolean ∨ t = .byte ∨ t = .char ∨ t = .short) (hlk : meth.locks = false) (hd : decode c.code pc = .ok (.ireturn, 1)) (hc : cells ≤ k) (hs : slots ≤ n)
    (hq : Q (some (.int (nar t z))) T.heap locs) : own_Out p e below (own_Q Q s k n) (T.setTop (mkF m pc Ls (.int z :: rest))) := by
  obtain ⟨fs, hr, hrun, hended, hW, hsame⟩ := X.leave (v := some (.int (nar t z))) (fun h => by rw [hret] at h; cases h) hlk
  exact ⟨_, _, retN X hx (t := t) hret ht hd hr, hrun, hended, _, _, rfl, hq, ⟨_, rfl⟩, hW, hsame.mono hc hs⟩
theorem own_retV (X : Stand p l e R s m args below meth c T locs cells slots) (hx : p.tables.exec = Jvm.exec) {Q : Option Value → Heap → List Loc → Prop} {k n : Nat} {pc : Nat} {Ls : Array Slot} {w : Value} {t : FieldType} {i : Instr} {rest : List Value}
    (hret : meth.sig.returnType = some t) (hn : narrow t w = w)
    (hi : (i = .ireturn ∧ (t = .int ∨ t = .boolean ∨ t = .byte ∨ t = .char ∨ t = .short) ∧ ∃ z, w = .int z) ∨ (i = .lreturn ∧ t = .long ∧ ∃ z, w = .long z) ∨ (i = .dreturn ∧ t = .double ∧ ∃ z, w = .double z) ∨ (i = .freturn ∧ t = .float ∧ ∃ z, w = .float z) ∨ (i = .areturn ∧ t.isReference = true ∧ w.isRef = true))
    (hlk : meth.locks = false) (hd : decode c.code pc = .ok (i, 1)) (hc : cells ≤ k) (hs : slots ≤ n)
    (hq : Q (some w) T.heap locs) : own_Out p e below (own_Q Q s k n) (T.setTop (mkF m pc Ls (w :: rest))) := by
  obtain ⟨fs, hr, hrun, hended, hW, hsame⟩ := X.leave (v := some w) (fun h => by rw [hret] at h; cases h) hlk
  exact ⟨_, _, retOut X hx hret hn hi hd hr, hrun, hended, _, _, rfl, hq, ⟨_, rfl⟩, hW, hsame.mono hc hs⟩
theorem own_retI (X : Stand p l e R s m args below meth c T locs cells slots) (hx : p.tables.exec = Jvm.exec) {Q : Option Value → Heap → List Loc → Prop} {k n : Nat} {pc : Nat} {Ls : Array Slot} {z : Int32} {rest : List Value}
    (hret : meth.sig.returnType = some .int) (hlk : meth.locks = false) (hd : decode c.code pc = .ok (.ireturn, 1)) (hc : cells ≤ k) (hs : slots ≤ n)
    (hq : Q (some (.int z)) T.heap locs) : own_Out p e below (own_Q Q s k n) (T.setTop (mkF m pc Ls (.int z :: rest))) :=
  own_retV X hx hret rfl (Or.inl ⟨rfl, Or.inl rfl, _, rfl⟩) hlk hd hc hs hq
theorem own_retJ (X : Stand p l e R s m args below meth c T locs cells slots) (hx : p.tables.exec = Jvm.exec) {Q : Option Value → Heap → List Loc → Prop} {k n : Nat} {pc : Nat} {Ls : Array Slot} {z : Int64} {rest : List Value}
    (hret : meth.sig.returnType = some .long) (hlk : meth.locks = false) (hd : decode c.code pc = .ok (.lreturn, 1)) (hc : cells ≤ k) (hs : slots ≤ n)
    (hq : Q (some (.long z)) T.heap locs) : own_Out p e below (own_Q Q s k n) (T.setTop (mkF m pc Ls (.long z :: rest))) :=
  own_retV X hx hret rfl (Or.inr (Or.inl ⟨rfl, rfl, _, rfl⟩)) hlk hd hc hs hq
theorem own_retA (X : Stand p l e R s m args below meth c T locs cells slots) (hx : p.tables.exec = Jvm.exec) {Q : Option Value → Heap → List Loc → Prop} {k n : Nat} {pc : Nat} {Ls : Array Slot} {w : Value} {t : FieldType} {rest : List Value}
    (hret : meth.sig.returnType = some t) (ht : t.isReference = true) (hw : w.isRef = true) (hlk : meth.locks = false) (hd : decode c.code pc = .ok (.areturn, 1)) (hc : cells ≤ k) (hs : slots ≤ n)
    (hq : Q (some w) T.heap locs) : own_Out p e below (own_Q Q s k n) (T.setTop (mkF m pc Ls (w :: rest))) :=
  own_retV X hx hret (by cases t <;> first | (cases ht; done) | rfl | (cases w <;> rfl)) (Or.inr (Or.inr (Or.inr (Or.inr ⟨rfl, ht, hw⟩)))) hlk hd hc hs hq
theorem own_ret0 (X : Stand p l e R s m args below meth c T locs cells slots) (hx : p.tables.exec = Jvm.exec) {Q : Option Value → Heap → List Loc → Prop} {k n : Nat} {pc : Nat} {Ls : Array Slot}
    (hret : meth.sig.returnType = none) (hlk : meth.locks = false) (hd : decode c.code pc = .ok (.return_, 1)) (hc : cells ≤ k) (hs : slots ≤ n)
    (hq : Q none T.heap locs) : own_Out p e below (own_Q Q s k n) (T.setTop (mkF m pc Ls [])) := by
  obtain ⟨fs, hr, hrun, hended, hW, hsame⟩ := X.leave (v := none) (fun _ => rfl) hlk
  exact ⟨_, _, X.returnOut hx hret hd hr, hrun, hended, _, _, rfl, hq, ⟨_, rfl⟩, hW, hsame.mono hc hs⟩
/-- the head of every body's walk -/
theorem own_body {x : MethodName} {code : ByteArray} {maxL : Nat} {ret : Option FieldType} {ws : List Jvm.Cond} {rm : Room} {as' : Array Value} {Q : Option Value → Heap → List Loc → Prop} (hpn : plainFor x = true) (Lf : Array Slot)
    (hent : ∀ m, entryFrame m as' maxL = mkF m 0 Lf [])
    (body : ∀ p e s m below meth c T, Stand p l e rm s m as' below meth c T [] 0 0 → p.tables.exec = Jvm.exec → c.code = code → c.maxLocals = maxL → meth.sig.returnType = ret → meth.locks = false →
      s.vm.findClass x.cls = some m.cls → meth.name = x.name → Z.Warmed39 s.vm → T.heap = h → own_Out p e below (own_Q Q s rm.cells rm.slots) (T.setTop (mkF m 0 Lf []))) :
    MetFree l x (head1 (Jvm.Cond.code x code maxL ret :: ws) rm) (fun a U => a = as' ∧ Z.Warmed39 U.vm ∧ U.heap = h) (fun _ _ _ _ _ => True)
      (fun _ U o U' => ∃ v L, o = .returned v ∧ Q v U'.heap L ∧ FrameEnd U o U' L rm.cells rm.slots) := by
  refine MetFree.of_bodySF hpn hisR ?_
  intro p e s m args below meth c s₁ Bd hml0 hP hK
  obtain ⟨rfl, hZ, hh⟩ := hP
  have e0 : s₁.heap = h := by rw [← hh, Bd.state]; rfl
  obtain ⟨s2, o, h1, h2⟩ := body p e s m below meth c s₁ (Stand.of_body Bd) Bd.exec Bd.bytes hml0 Bd.returns (BodyLoose.notSynchronized Bd) (findClass_of_methodNamed Bd.named) (name_of_methodNamed Bd.named Bd.method).1 hZ e0
  exact ⟨s2, o, castTop (hent m) h1, h2⟩
/-- a static call by the callee's own contract -/
theorem own_callS (X : Stand p l e R s m args below meth c T locs cells slots) (hx : p.tables.exec = Jvm.exec) (hZ : Z.Warmed39 s.vm) {own : String} {index : Nat} {y : MethodName} {bytes : ByteArray} {maxL : Nat} {ret : Option FieldType} {rm : Room} {as' : List Value} {Q : Option Value → Heap → List Loc → Prop} {Qf : Outcome → State → Prop}
    (hown : s.vm.findClass own = some m.cls) (w1 : (Jvm.Cond.methodLink own index y).before a0 Z = true) (w2 : (Jvm.Cond.static y).before a0 Z = true) (w3 : (Jvm.Cond.initialized y.cls).before a0 Z = true) (w4 : (Jvm.Cond.code y bytes maxL ret).before a0 Z = true)
    (hy : y.cls ≠ "java/lang/invoke/MethodHandle" ∧ y.cls ≠ "java/lang/invoke/VarHandle")
    (hM : MetFree l y (head1 [Jvm.Cond.code y bytes maxL ret] rm) (fun a U => a = as'.toArray ∧ Z.Warmed39 U.vm ∧ U.heap = h) (fun _ _ _ _ _ => True) (fun _ U o U' => ∃ v L, o = .returned v ∧ Q v U'.heap L ∧ FrameEnd U o U' L rm.cells rm.slots))
    (W : Nat) (hf : rm.frames + 1 ≤ R.frames) (hl : W + (maxL + 11) + rm.locals ≤ R.locals) (hc : cells + rm.cells ≤ R.cells) (hs : slots + rm.slots ≤ R.slots)
    {pc : Nat} {Ls : Array Slot} {stk rest : List Value} (hsize : Ls.size = c.maxLocals) (hlen : ∀ sig, parseMethodDescriptor y.desc = some sig → as'.length = sig.parameters.length) (hstack : stk = as'.reverse ++ rest) (hW : (rest.map fun v => v.category).sum ≤ W) (hd : decode c.code pc = .ok (.invokestatic index, 3)) (eT : T.heap = h)
    (k : ∀ T' L v, Stand p l e R s m args below meth c T' (locs ++ L) (cells + rm.cells) (slots + rm.slots) → Q v T'.heap L → own_Out p e below Qf (T'.setTop (mkF m (pc + 3) Ls (v.toList ++ rest)))) :
    own_Out p e below Qf (T.setTop (mkF m pc Ls stk)) := by
  obtain ⟨v, _, ⟨T', L', k', n'⟩, -, X', ⟨Lc, hQ, hl', hy', hz'⟩, st⟩ := Jvm.LawKit.callS X hx (y := y) hown (mvT hZ w1) (mvT hZ w2) (mvT hZ w3) (mvT hZ w4) hy (backOf (W := W) hM hZ w4 w3 hf hl) (g := mkF m pc Ls stk) rfl hsize (argsL := as') (rest := rest) hlen hstack (by show 2 * 0 + _ ≤ _; omega) hd (fun _ _ => ⟨rfl, eT, hc, hs⟩)
  dsimp only [Pt.U, Pt.locs, Pt.cells, Pt.slots] at X' hl' hy' hz' st hQ
  subst hl' hy' hz'
  exact own_st st (k _ _ _ X' hQ)
/-- an instance method by its own contract -/
theorem own_callV (X : Stand p l e R s m args below meth c T locs cells slots) (hx : p.tables.exec = Jvm.exec) (hZ : Z.Warmed39 s.vm) {own C : String} {index : Nat} {y : MethodName} {bytes : ByteArray} {maxL : Nat} {ret : Option FieldType} {rm : Room} {b : Addr} {as' : List Value} {Q : Option Value → Heap → List Loc → Prop} {Qf : Outcome → State → Prop}
    (hown : s.vm.findClass own = some m.cls) (w1 : (Jvm.Cond.methodLink own index y).before a0 Z = true) (w2 : (Jvm.Cond.declares y).before a0 Z = true) (w5 : (Jvm.Cond.selects C y y).before a0 Z = true) (w6 : (Jvm.Cond.instanceMethod y).before a0 Z = true) (w4 : (Jvm.Cond.code y bytes maxL ret).before a0 Z = true) (w3 : (Jvm.Cond.initialized y.cls).before a0 Z = true)
    (hy : y.cls ≠ "java/lang/invoke/MethodHandle" ∧ y.cls ≠ "java/lang/invoke/VarHandle")
    (hM : MetFree l y (head1 [Jvm.Cond.code y bytes maxL ret] rm) (fun a U => a = (.ref b :: as').toArray ∧ Z.Warmed39 U.vm ∧ U.heap = h) (fun _ _ _ _ _ => True) (fun _ U o U' => ∃ v L, o = .returned v ∧ Q v U'.heap L ∧ FrameEnd U o U' L rm.cells rm.slots))
    (E : Exa Z h b C)
    (W : Nat) (hf : rm.frames + 1 ≤ R.frames) (hl : W + (maxL + 11) + rm.locals ≤ R.locals) (hc : cells + rm.cells ≤ R.cells) (hs : slots + rm.slots ≤ R.slots)
    {pc : Nat} {Ls : Array Slot} {stk rest : List Value} (hsize : Ls.size = c.maxLocals) (hlen : ∀ sig, parseMethodDescriptor y.desc = some sig → as'.length = sig.parameters.length) (hstack : stk = as'.reverse ++ .ref b :: rest) (hW : (rest.map fun v => v.category).sum ≤ W) (hd : decode c.code pc = .ok (.invokevirtual index, 3)) (eT : T.heap = h)
    (k : ∀ T' L v, Stand p l e R s m args below meth c T' (locs ++ L) (cells + rm.cells) (slots + rm.slots) → Q v T'.heap L → own_Out p e below Qf (T'.setTop (mkF m (pc + 3) Ls (v.toList ++ rest)))) :
    own_Out p e below Qf (T.setTop (mkF m pc Ls stk)) := by
  obtain ⟨cq, kq, qa, qb, qc⟩ := isOf hZ eT E
  obtain ⟨v, _, ⟨T', L', k', n'⟩, -, X', ⟨Lc, hQ, hl', hy', hz'⟩, st⟩ := X.virtualBack hx (y := y) (z := y) hown (mvT hZ w1) (mvT hZ w2) (notFace_of_selects (args := #[]) (mvT hZ w5)) (mvT hZ w5) (mvT hZ w6) hy (backOf (W := W) hM hZ w4 w3 hf hl) qa qc (g := mkF m pc Ls stk) rfl hsize (Steps.refl _) (argsL := as') (rest := rest) hlen hstack (by show 2 * 0 + _ ≤ _; omega) hd (fun _ _ => ⟨rfl, eT, hc, hs⟩)
  dsimp only [Pt.U, Pt.locs, Pt.cells, Pt.slots] at X' hl' hy' hz' st hQ
  subst hl' hy' hz'
  exact own_tr st (k _ _ _ X' hQ)
/-- a constructor by its own contract -/
theorem own_callI (X : Stand p l e R s m args below meth c T locs cells slots) (hx : p.tables.exec = Jvm.exec) (hZ : Z.Warmed39 s.vm) {own : String} {index : Nat} {y : MethodName} {bytes : ByteArray} {maxL : Nat} {rm : Room} {b : Addr} {as' : List Value} {Q : Option Value → Heap → List Loc → Prop} {Qf : Outcome → State → Prop} (hy1 : y.name = "<init>")
    (hown : s.vm.findClass own = some m.cls) (w1 : (Jvm.Cond.methodLink own index y).before a0 Z = true) (w6 : (Jvm.Cond.instanceMethod y).before a0 Z = true) (w4 : (Jvm.Cond.code y bytes maxL none).before a0 Z = true) (w3 : (Jvm.Cond.initialized y.cls).before a0 Z = true)
    (hy : y.cls ≠ "java/lang/invoke/MethodHandle" ∧ y.cls ≠ "java/lang/invoke/VarHandle")
    (hM : MetFree l y (head1 [Jvm.Cond.code y bytes maxL none] rm) (fun a U => a = (.ref b :: as').toArray ∧ Z.Warmed39 U.vm ∧ U.heap = h) (fun _ _ _ _ _ => True) (fun _ U o U' => ∃ v L, o = .returned v ∧ Q v U'.heap L ∧ FrameEnd U o U' L rm.cells rm.slots))
    (W : Nat) (hf : rm.frames + 1 ≤ R.frames) (hl : W + (maxL + 11) + rm.locals ≤ R.locals) (hc : cells + rm.cells ≤ R.cells) (hs : slots + rm.slots ≤ R.slots)
    {pc : Nat} {Ls : Array Slot} {stk rest : List Value} (hsize : Ls.size = c.maxLocals) (hlen : ∀ sig, parseMethodDescriptor y.desc = some sig → as'.length = sig.parameters.length) (hstack : stk = as'.reverse ++ .ref b :: rest) (hW : (rest.map fun v => v.category).sum ≤ W) (hd : decode c.code pc = .ok (.invokespecial index, 3)) (eT : T.heap = h)
    (k : ∀ T' L v, Stand p l e R s m args below meth c T' (locs ++ L) (cells + rm.cells) (slots + rm.slots) → Q v T'.heap L → own_Out p e below Qf (T'.setTop (mkF m (pc + 3) Ls (v.toList ++ rest)))) :
    own_Out p e below Qf (T.setTop (mkF m pc Ls stk)) := by
  obtain ⟨v, _, ⟨T', L', k', n'⟩, -, X', ⟨Lc, hQ, hl', hy', hz'⟩, st⟩ := X.specialBack hx (y := y) hy1 hown (mvT hZ w1) (mvT hZ w6) (mvT hZ w4) hy (backOf (W := W) hM hZ w4 w3 hf hl) (g := mkF m pc Ls stk) rfl hsize (Steps.refl _) (a := b) (argsL := as') (rest := rest) hlen hstack (by show 2 * 0 + _ ≤ _; omega) hd (fun _ _ => ⟨rfl, eT, hc, hs⟩)
  dsimp only [Pt.U, Pt.locs, Pt.cells, Pt.slots] at X' hl' hy' hz' st hQ
  subst hl' hy' hz'
  exact own_tr st (k _ _ _ X' hQ)
theorem own_fits {C : String} {v : Value} (h : v.isRef = true) : fits (.object C) v = true := by cases v <;> first | rfl | cases h
theorem own_narO {C : String} {v : Value} (h : v.isRef = true) : narrow (.object C) v = v := by cases v <;> first | rfl | cases h
theorem own_nf {y y' : MethodName} (hc : y'.cls = y.cls) (h : NotFace s y) (hi : (Jvm.Cond.instanceMethod y).before a0 s = true) : NotFace s y' := fun r0 h0 => by
  obtain ⟨mk, methM, hnamed, -⟩ := Cond.instanceMethod_spec hi
  have h1 := findClass_of_methodNamed hnamed
  have h2 := findClass_of_methodNamed h0
  rw [hc, h1] at h2
  have h3 := Option.some.inj h2
  rw [← h3]
  exact h mk hnamed
/-- a private method (invokevirtual) by its own contract -/
theorem own_callP (X : Stand p l e R s m args below meth c T locs cells slots) (hx : p.tables.exec = Jvm.exec) (hZ : Z.Warmed39 s.vm) {own C : String} {index : Nat} {y : MethodName} {bytes : ByteArray} {maxL : Nat} {ret : Option FieldType} {rm : Room} {b : Addr} {as' : List Value} {Q : Option Value → Heap → List Loc → Prop} {Qf : Outcome → State → Prop}
    (hown : s.vm.findClass own = some m.cls) (w1 : (Jvm.Cond.methodLink own index y).before a0 Z = true) (w6 : (Jvm.Cond.instanceMethod y).before a0 Z = true) (w8 : (Jvm.Cond.privateMethod y).before a0 Z = true) (w4 : (Jvm.Cond.code y bytes maxL ret).before a0 Z = true) (w3 : (Jvm.Cond.initialized y.cls).before a0 Z = true) (hnf : NotFace s y)
    (hy : y.cls ≠ "java/lang/invoke/MethodHandle" ∧ y.cls ≠ "java/lang/invoke/VarHandle")
    (hM : MetFree l y (head1 [Jvm.Cond.code y bytes maxL ret] rm) (fun a U => a = (.ref b :: as').toArray ∧ Z.Warmed39 U.vm ∧ U.heap = h) (fun _ _ _ _ _ => True) (fun _ U o U' => ∃ v L, o = .returned v ∧ Q v U'.heap L ∧ FrameEnd U o U' L rm.cells rm.slots))
    (E : Exa Z h b C)
    (W : Nat) (hf : rm.frames + 1 ≤ R.frames) (hl : W + (maxL + 11) + rm.locals ≤ R.locals) (hc : cells + rm.cells ≤ R.cells) (hs : slots + rm.slots ≤ R.slots)
    {pc : Nat} {Ls : Array Slot} {stk rest : List Value} (hsize : Ls.size = c.maxLocals) (hlen : ∀ sig, parseMethodDescriptor y.desc = some sig → as'.length = sig.parameters.length) (hstack : stk = as'.reverse ++ .ref b :: rest) (hW : (rest.map fun v => v.category).sum ≤ W) (hd : decode c.code pc = .ok (.invokevirtual index, 3)) (eT : T.heap = h)
    (k : ∀ T' L v, Stand p l e R s m args below meth c T' (locs ++ L) (cells + rm.cells) (slots + rm.slots) → Q v T'.heap L → own_Out p e below Qf (T'.setTop (mkF m (pc + 3) Ls (v.toList ++ rest)))) :
    own_Out p e below Qf (T.setTop (mkF m pc Ls stk)) := by
  obtain ⟨mk, methM, hnamed, hmethM, hstM, habM⟩ := Cond.instanceMethod_spec (mvT (args := args) hZ w6)
  obtain ⟨methM', cM, hmethM', -, -, -, -, -, -, hsigM⟩ := Cond.code_spec hnamed (mvT (args := args) hZ w4)
  cases hmethM.symm.trans hmethM'
  obtain ⟨kP, hkP, hkPi⟩ := hnf mk hnamed
  obtain ⟨cell, hcell, hobj⟩ := E.cell
  have hselP : selectMethod e.platform s.vm cell.cls mk = .method mk := selectMethod_private hmethM (Cond.privateMethod_at (mvP hZ w8 (args := #[])) mk methM hnamed hmethM)
  obtain ⟨vm₁, X₁, hstep₁⟩ := X.invokevirtual hx hown (mvT hZ w1) hnamed hmethM hstM hkP hkPi hy (a := b) (cell := cell) (by rw [eT]; exact hcell) hobj hselP hmethM habM hkP hkPi (g := mkF m pc Ls stk) rfl (argsL := as') (rest := rest) (hlen _ hsigM) hstack hd
  obtain ⟨v, ⟨T', L', k', n'⟩, X', ⟨Lc, hQ, hl', hy', hz'⟩, st⟩ := backOf (W := W) hM hZ w4 w3 hf hl m meth c ⟨T.setVm vm₁, locs, cells, slots⟩ { mkF m pc Ls stk with stack := rest } (.invokevirtual index) mk (.ref b :: as').toArray X₁ rfl hsize hd (by show 2 * 0 + (rest.map fun v => v.category).sum ≤ W; omega) (X₁.named hnamed) ⟨rfl, eT, hc, hs⟩
  dsimp only [Pt.U, Pt.locs, Pt.cells, Pt.slots] at X' hl' hy' hz' st hQ
  subst hl' hy' hz'
  exact own_st (fun target q => hstep₁ _ fun acts => by rw [doInvoke_state]; exact st.trans q) (k _ _ _ X' hQ)
end Own
end Jvm.RoadKit
namespace Jvm.RoadKit
open Sem ClassFile Op Lib Jvm.Stand Jvm.Free Jvm.LawKit
section OwnW
variable {p : Program} {l : Launch} {e : Env} {R : Room} {s : State} {m : MethodId} {args : Array Value} {below : List Frame} {meth : Method} {c : Code} {T : State} {locs : List Loc} {cells slots : Nat} {Z : State} {a0 : Array Value} {h : Heap}
/-- as own_Q, where a String constant may have come to be interned -/
def own_QW (Q : Option Value → Heap → List Loc → Prop) (s : State) (k n : Nat) : Outcome → State → Prop :=
  fun o U => ∃ v L, o = .returned v ∧ Q v U.heap L ∧ ((∃ w : Option Value, o = .returned w) ∧ s.Warmed39 U.vm ∧ s.Booked U.vm U.heap.size ∧ s.sameButNew ({ U with vm := s.vm } : State) L k n)
theorem own_retBW {vm1 : Vm} (X : Stand p l e R (s.setVm vm1) m args below meth c T locs cells slots) (hx : p.tables.exec = Jvm.exec) {n1 : Nat} (hS : s.Since vm1 n1) (hn : n1 ≤ T.heap.size) {Q : Option Value → Heap → List Loc → Prop} {k n : Nat} {pc : Nat} {Ls : Array Slot} {z : Int32} {t : FieldType} {rest : List Value}
    (hret : meth.sig.returnType = some t) (ht : t = .boolean ∨ t = .byte ∨ t = .char ∨ t = .short) (hlk : meth.locks = false) (hd : decode c.code pc = .ok (.ireturn, 1)) (hc : cells ≤ k) (hs : slots ≤ n)
    (hq : Q (some (.int (nar t z))) T.heap locs) : own_Out p e below (own_QW Q s k n) (T.setTop (mkF m pc Ls (.int z :: rest))) := by
  obtain ⟨fs, hr, hrun, hended, hv, hW, hB, hsame⟩ := X.leaveW hS hn (v := some (.int (nar t z))) (fun h => by rw [hret] at h; cases h) hlk
  exact ⟨_, _, retN X hx (t := t) hret ht hd hr, hrun, hended, _, _, rfl, hq, hv, hW, hB, hsame.mono hc hs⟩
/-- the head of a law's walk that loads a String constant: it starts at Z itself -/
theorem own_bodyW {x : MethodName} {code : ByteArray} {maxL : Nat} {ret : Option FieldType} {ws : List Jvm.Cond} {rm : Room} {as' : Array Value} {Q : Option Value → Heap → List Loc → Prop} (hpn : plainFor x = true) (Lf : Array Slot)
    (hent : ∀ m, entryFrame m as' maxL = mkF m 0 Lf [])
    (body : ∀ p e m below meth c T, Stand p l e rm Z m as' below meth c T [] 0 0 → p.tables.exec = Jvm.exec → c.code = code → c.maxLocals = maxL → meth.sig.returnType = ret → meth.locks = false →
      Z.vm.findClass x.cls = some m.cls → meth.name = x.name → Z.Warmed39 Z.vm → T.heap = Z.heap → own_Out p e below (own_QW Q Z rm.cells rm.slots) (T.setTop (mkF m 0 Lf []))) :
    MetFree l x (head1 (Jvm.Cond.code x code maxL ret :: ws) rm) (fun a U => a = as' ∧ U = Z) (fun _ _ _ _ _ => True)
      (fun _ U o U' => own_QW Q U rm.cells rm.slots o U') := by
  refine MetFree.of_bodySF hpn hisR ?_
  intro p e s m args below meth c s₁ Bd hml0 hP hK
  obtain ⟨rfl, rfl⟩ := hP
  have e0 : s₁.heap = s.heap := by rw [Bd.state]; rfl
  obtain ⟨s2, o, h1, h2⟩ := body p e m below meth c s₁ (Stand.of_body Bd) Bd.exec Bd.bytes hml0 Bd.returns (BodyLoose.notSynchronized Bd) (findClass_of_methodNamed Bd.named) (name_of_methodNamed Bd.named Bd.method).1 (State.Warmed39.refl s) e0
  exact ⟨s2, o, castTop (hent m) h1, h2⟩
end OwnW
end Jvm.RoadKit
namespace Jvm.RoadKit
open Sem ClassFile Op Lib Jvm.Stand Jvm.Free Jvm.LawKit
section OwnA
variable {p : Program} {l : Launch} {e : Env} {R : Room} {s : State} {m : MethodId} {args : Array Value} {below : List Frame} {meth : Method} {c : Code} {T : State} {locs : List Loc} {cells slots : Nat} {Z : State} {a0 : Array Value} {h h' : Heap} {a b : Addr} {n : Nat} {f : Nat → Int64} {g0 : Nat → Int32} {Q : Outcome → State → Prop} {ws : List Addr} {sl : Nat} {v : Value}
/-- a long[] of length n with the components f -/
def own_AJ (Z : State) (h : Heap) (a : Addr) (n : Nat) (f : Nat → Int64) : Prop := ∃ c : Cell, Arr Z h a c .long ∧ c.slots.size = n ∧ n < 2147483648 ∧ ∀ i, i < n → c.slots[i]? = some (.long (f i))
def own_AI (Z : State) (h : Heap) (a : Addr) (n : Nat) (f : Nat → Int32) : Prop := ∃ c : Cell, Arr Z h a c .int ∧ c.slots.size = n ∧ n < 2147483648 ∧ ∀ i, i < n → c.slots[i]? = some (.int (f i))
theorem own_AJ_lt (F : own_AJ Z h a n f) : a < h.size := by obtain ⟨c, A, -⟩ := F; exact A.lt
theorem own_AI_lt (F : own_AI Z h a n g0) : a < h.size := by obtain ⟨c, A, -⟩ := F; exact A.lt
theorem own_AJ_ext (F : own_AJ Z h a n f) (E : Ext h h') : own_AJ Z h' a n f := by obtain ⟨c, A, r⟩ := F; exact ⟨c, A.ext E, r⟩
theorem own_AI_ext (F : own_AI Z h a n g0) (E : Ext h h') : own_AI Z h' a n g0 := by obtain ⟨c, A, r⟩ := F; exact ⟨c, A.ext E, r⟩
theorem own_AJ_other (F : own_AJ Z h b n f) (W : Wr h h' a sl v) (q : b ≠ a) : own_AJ Z h' b n f := by obtain ⟨c, A, r⟩ := F; exact ⟨c, A.other W q, r⟩
theorem own_AI_other (F : own_AI Z h b n g0) (W : Wr h h' a sl v) (q : b ≠ a) : own_AI Z h' b n g0 := by obtain ⟨c, A, r⟩ := F; exact ⟨c, A.other W q, r⟩
theorem own_AJ_keep (F : own_AJ Z h a n f) (K : Keep h h' ws) (q : a ∉ ws) : own_AJ Z h' a n f := by obtain ⟨c, A, r⟩ := F; exact ⟨c, ⟨K.2.1 a c A.1 q, A.2⟩, r⟩
theorem own_AI_keep (F : own_AI Z h a n g0) (K : Keep h h' ws) (q : a ∉ ws) : own_AI Z h' a n g0 := by obtain ⟨c, A, r⟩ := F; exact ⟨c, ⟨K.2.1 a c A.1 q, A.2⟩, r⟩
theorem own_AJ_congr {f' : Nat → Int64} (F : own_AJ Z h a n f) (q : ∀ i, i < n → f i = f' i) : own_AJ Z h a n f' := by obtain ⟨c, A, S, b, H⟩ := F; exact ⟨c, A, S, b, fun i hi => by rw [H i hi, q i hi]⟩
theorem own_nlt {z : Int32} (q : ¬ z < 0) : z.toNatClampNeg < 2147483648 := by
  have := z.toInt_lt
  simp only [Int32.toNatClampNeg]; omega
theorem own_AJ_new {k : ClassId} {z : Int32} (A : Arr Z h a (newA k .long z) .long) (q : ¬ z < 0) (hn : z.toNatClampNeg = n) : own_AJ Z h a n (fun _ => 0) :=
  ⟨_, A, (sz_new _ _ _).trans hn, hn ▸ own_nlt q, fun i hi => by subst hn; simp [newA, hi]; rfl⟩
theorem own_AI_new {k : ClassId} {z : Int32} (A : Arr Z h a (newA k .int z) .int) (q : ¬ z < 0) (hn : z.toNatClampNeg = n) : own_AI Z h a n (fun _ => 0) :=
  ⟨_, A, (sz_new _ _ _).trans hn, hn ▸ own_nlt q, fun i hi => by subst hn; simp [newA, hi]; rfl⟩
theorem own_AJ_set {x : Int64} {i : Nat} (F : own_AJ Z h a n f) (W : Wr h h' a i (.long x)) : own_AJ Z h' a n (fun k => if k = i then x else f k) := by
  obtain ⟨c, A, S, bn, H⟩ := F
  refine ⟨_, A.same W, by rw [sz_set]; exact S, bn, fun k hk => ?_⟩
  have hk' : k < c.slots.size := S ▸ hk
  by_cases q : k = i
  · subst q; simp [Cell.setSlot, hk']
  · have q' : i ≠ k := fun z => q z.symm
    simp [Cell.setSlot, q, Array.getElem?_setIfInBounds_ne q', H k hk]
theorem own_AI_set {x : Int32} {i : Nat} (F : own_AI Z h a n g0) (W : Wr h h' a i (.int x)) : own_AI Z h' a n (fun k => if k = i then x else g0 k) := by
  obtain ⟨c, A, S, bn, H⟩ := F
  refine ⟨_, A.same W, by rw [sz_set]; exact S, bn, fun k hk => ?_⟩
  have hk' : k < c.slots.size := S ▸ hk
  by_cases q : k = i
  · subst q; simp [Cell.setSlot, hk']
  · have q' : i ≠ k := fun z => q z.symm
    simp [Cell.setSlot, q, Array.getElem?_setIfInBounds_ne q', H k hk]
theorem own_ext_wr (E : Ext h0 h) (W : Wr h h' a sl v) (q : h0.size ≤ a) : Ext h0 h' := by
  obtain ⟨cell, h1, -, -, rfl⟩ := W
  refine ⟨by rw [Array.size_setIfInBounds]; exact E.1, fun x c hx => ?_⟩
  have hlt := (Array.getElem?_eq_some_iff.mp hx).1
  rw [Array.getElem?_setIfInBounds_ne (by omega)]; exact E.2 x c hx
theorem own_laload (X : Stand p l e R s m args below meth c T locs cells slots) (hx : p.tables.exec = Jvm.exec) (hZ : Z.Warmed39 s.vm) (eT : T.heap = h) (F : own_AJ Z h a n f) {j : Int32} {i : Nat} (hj : ¬ j < 0) (hji : j.toNatClampNeg = i) (hi : i < n)
    {pc : Nat} {Ls : Array Slot} {rest : List Value} (hd : decode c.code pc = .ok (.laload, 1)) (k : own_Out p e below Q (T.setTop (mkF m (pc + 1) Ls (.long (f i) :: rest)))) : own_Out p e below Q (T.setTop (mkF m pc Ls (.int j :: .ref a :: rest))) := by
  obtain ⟨cl, A, S, bn, H⟩ := F
  subst hji
  exact own_st (fun t q => X.laload hx (by rw [eT]; exact A.1) (State.isArrayOf_alike hZ.alike A.2.1) A.2.2 (by rw [S]; exact fun q => q.elim hj (Nat.not_le_of_lt hi)) (H _ hi) (g := mkF m pc Ls (.int j :: .ref a :: rest)) rfl rfl hd t q) k
theorem own_iaload (X : Stand p l e R s m args below meth c T locs cells slots) (hx : p.tables.exec = Jvm.exec) (hZ : Z.Warmed39 s.vm) (eT : T.heap = h) (F : own_AI Z h a n g0) {j : Int32} {i : Nat} (hj : ¬ j < 0) (hji : j.toNatClampNeg = i) (hi : i < n)
    {pc : Nat} {Ls : Array Slot} {rest : List Value} (hd : decode c.code pc = .ok (.iaload, 1)) (k : own_Out p e below Q (T.setTop (mkF m (pc + 1) Ls (.int (g0 i) :: rest)))) : own_Out p e below Q (T.setTop (mkF m pc Ls (.int j :: .ref a :: rest))) := by
  obtain ⟨cl, A, S, bn, H⟩ := F
  subst hji
  exact own_st (fun t q => X.iaload hx (by rw [eT]; exact A.1) (State.isArrayOf_alike hZ.alike A.2.1) A.2.2 (by rw [S]; exact fun q => q.elim hj (Nat.not_le_of_lt hi)) (H _ hi) (g := mkF m pc Ls (.int j :: .ref a :: rest)) rfl rfl hd t q) k
theorem own_lenJ (X : Stand p l e R s m args below meth c T locs cells slots) (hx : p.tables.exec = Jvm.exec) (hZ : Z.Warmed39 s.vm) (eT : T.heap = h) (F : own_AJ Z h a n f) {z : Int32} (hz : n.toInt32 = z)
    {pc : Nat} {Ls : Array Slot} {rest : List Value} (hd : decode c.code pc = .ok (.arraylength, 1)) (k : own_Out p e below Q (T.setTop (mkF m (pc + 1) Ls (.int z :: rest)))) : own_Out p e below Q (T.setTop (mkF m pc Ls (.ref a :: rest))) := by
  obtain ⟨cl, A, S, bn, H⟩ := F
  exact own_st (fun t q => X.arraylength hx (by rw [eT]; exact A.1) (State.isArrayOf_alike hZ.alike A.2.1) (g := mkF m pc Ls (.ref a :: rest)) rfl rfl hd t (by rw [S, hz]; exact q)) k
theorem own_lenI (X : Stand p l e R s m args below meth c T locs cells slots) (hx : p.tables.exec = Jvm.exec) (hZ : Z.Warmed39 s.vm) (eT : T.heap = h) (F : own_AI Z h a n g0) {z : Int32} (hz : n.toInt32 = z)
    {pc : Nat} {Ls : Array Slot} {rest : List Value} (hd : decode c.code pc = .ok (.arraylength, 1)) (k : own_Out p e below Q (T.setTop (mkF m (pc + 1) Ls (.int z :: rest)))) : own_Out p e below Q (T.setTop (mkF m pc Ls (.ref a :: rest))) := by
  obtain ⟨cl, A, S, bn, H⟩ := F
  exact own_st (fun t q => X.arraylength hx (by rw [eT]; exact A.1) (State.isArrayOf_alike hZ.alike A.2.1) (g := mkF m pc Ls (.ref a :: rest)) rfl rfl hd t (by rw [S, hz]; exact q)) k
theorem own_lastore (X : Stand p l e R s m args below meth c T locs cells slots) (hx : p.tables.exec = Jvm.exec) (hZ : Z.Warmed39 s.vm) (eT : T.heap = h) (F : own_AJ Z h a n f) {j : Int32} {x : Int64} {i : Nat} (hj : ¬ j < 0) (hji : j.toNatClampNeg = i) (hi : i < n)
    {pc : Nat} {Ls : Array Slot} {rest : List Value} (hd : decode c.code pc = .ok (.lastore, 1)) (k : ∀ T' h', Stand p l e R s m args below meth c T' (locs ++ [⟨a, i⟩]) cells slots → T'.heap = h' → Wr h h' a i (.long x) → own_AJ Z h' a n (fun k => if k = i then x else f k) → own_Out p e below Q (T'.setTop (mkF m (pc + 1) Ls rest))) : own_Out p e below Q (T.setTop (mkF m pc Ls (.long x :: .int j :: .ref a :: rest))) := by
  have F' := F
  obtain ⟨cl, A, S, bn, H⟩ := F
  subst hji
  obtain ⟨T', h', X', e', W, st⟩ := stJ X hx hZ eT A (j := j) (x := x) (by rw [S]; exact fun q => q.elim hj (Nat.not_le_of_lt hi)) (g := mkF m pc Ls (.long x :: .int j :: .ref a :: rest)) rfl rfl hd
  exact own_st st (k T' h' X' e' W (own_AJ_set F' W))
theorem own_iastore (X : Stand p l e R s m args below meth c T locs cells slots) (hx : p.tables.exec = Jvm.exec) (hZ : Z.Warmed39 s.vm) (eT : T.heap = h) (F : own_AI Z h a n g0) {j : Int32} {x : Int32} {i : Nat} (hj : ¬ j < 0) (hji : j.toNatClampNeg = i) (hi : i < n)
    {pc : Nat} {Ls : Array Slot} {rest : List Value} (hd : decode c.code pc = .ok (.iastore, 1)) (k : ∀ T' h', Stand p l e R s m args below meth c T' (locs ++ [⟨a, i⟩]) cells slots → T'.heap = h' → Wr h h' a i (.int x) → own_AI Z h' a n (fun k => if k = i then x else g0 k) → own_Out p e below Q (T'.setTop (mkF m (pc + 1) Ls rest))) : own_Out p e below Q (T.setTop (mkF m pc Ls (.int x :: .int j :: .ref a :: rest))) := by
  have F' := F
  obtain ⟨cl, A, S, bn, H⟩ := F
  subst hji
  obtain ⟨T', h', X', e', W, st⟩ := stI X hx hZ eT A (j := j) (x := x) (by rw [S]; exact fun q => q.elim hj (Nat.not_le_of_lt hi)) (g := mkF m pc Ls (.int x :: .int j :: .ref a :: rest)) rfl rfl hd
  exact own_st st (k T' h' X' e' W (own_AI_set F' W))
theorem own_AJ_arv (F : own_AJ Z h a n f) : ∃ k z, ¬ z < 0 ∧ z.toNatClampNeg = n ∧ Arv Z h a k .long z ((List.range n).map fun i => .long (f i)) (.long 0) := by
  obtain ⟨c, A, S, bn, H⟩ := F
  have e1 : (Int32.ofNat n).toInt = n := Int32.toInt_ofNat_of_lt (by omega)
  have e2 : (Int32.ofNat n).toNatClampNeg = n := by simp only [Int32.toNatClampNeg, e1]; omega
  have gd : ∀ i, i < n → ((List.range n).map fun i => Value.long (f i)).getD i (.long 0) = .long (f i) := fun i hi => by simp [List.getD_eq_getElem?_getD, hi]
  refine ⟨c.cls, Int32.ofNat n, ?_, e2, c, A, rfl, by rw [S, e2], ?_, fun i hi => ?_, fun i hi => ?_⟩
  · rw [Int32.lt_iff_toInt_lt, e1]; have : (0 : Int32).toInt = 0 := rfl; omega
  · rw [Int32.lt_iff_toInt_lt, e1]; have : (0 : Int32).toInt = 0 := rfl; omega
  · rw [gd i (S ▸ hi)]; exact H i (S ▸ hi)
  · rw [gd i (S ▸ hi)]; rfl
theorem own_arv_AJ {k : ClassId} {z : Int32} {vs : List Value} {dv : Value} (F : Arv Z h a k .long z vs dv) (hn : z.toNatClampNeg = n) (hv : ∀ i, i < n → vs.getD i dv = .long (f i)) : own_AJ Z h a n f := by
  obtain ⟨c, A, -, S, q, H, -⟩ := F
  exact ⟨c, A, S.trans hn, hn ▸ own_nlt q, fun i hi => by rw [H i (by rw [S, hn]; exact hi), hv i hi]⟩
theorem own_arraycopy (X : Stand p l e R s m args below meth c T locs cells slots) (hx : p.tables.exec = Jvm.exec) (hZ : Z.Warmed39 s.vm) {own : String} {index : Nat} (hown : s.vm.findClass own = some m.cls)
    (w1 : (Cond.methodLink own index Jvm.Stand.acN).before a0 Z = true) (w2 : (Cond.native Jvm.Stand.acN).before a0 Z = true) (w3 : (Cond.static Jvm.Stand.acN).before a0 Z = true) (w4 : (Cond.initialized "java/lang/System").before a0 Z = true) (eT : T.heap = h)
    {na nb : Nat} {fa fb : Nat → Int64} (A : own_AJ Z h a na fa) (B : own_AJ Z h b nb fb) {sp dp nn : Int32} {i1 i2 i3 : Nat} (h1 : ¬ sp < 0) (h2 : ¬ dp < 0) (h3 : ¬ nn < 0) (e1 : sp.toNatClampNeg = i1) (e2 : dp.toNatClampNeg = i2) (e3 : nn.toNatClampNeg = i3) (h4 : i1 + i3 ≤ na) (h5 : i2 + i3 ≤ nb)
    {n0 : Nat} (N : Fr n0 locs) (ge : n0 ≤ b) {pc : Nat} {Ls : Array Slot} {rest : List Value} (hsize : Ls.size = c.maxLocals) (hd : decode c.code pc = .ok (.invokestatic index, 3)) (hf : 1 ≤ R.frames) (W : Nat) (hW : (rest.map fun v => v.category).sum ≤ W) (hlo : W + 18 ≤ R.locals)
    (k : ∀ T' h' L, Stand p l e R s m args below meth c T' L cells slots → T'.heap = h' → Fr n0 L → Keep h h' [b] → own_AJ Z h' b nb (fun i => if i2 ≤ i ∧ i < i2 + i3 then fa (i1 + (i - i2)) else fb i) → own_Out p e below Q (T'.setTop (mkF m (pc + 3) Ls rest))) :
    own_Out p e below Q (T.setTop (mkF m pc Ls (.int nn :: .int dp :: .ref b :: .int sp :: .ref a :: rest))) := by
  obtain ⟨ka, za, qa, ea, FA⟩ := own_AJ_arv A
  obtain ⟨kb, zb, qb, eb, FB⟩ := own_AJ_arv B
  subst e1 e2 e3
  obtain ⟨T', h', L, X', e', N', K, B', st⟩ := cpA X hx hZ hown w1 w2 w3 w4 eT FA FB (Or.inl ⟨rfl, rfl⟩) h1 h2 h3 (by rw [ea]; exact h4) (by rw [eb]; exact h5) rfl (by simp; exact h5) N ge (g := mkF m pc Ls (.int nn :: .int dp :: .ref b :: .int sp :: .ref a :: rest)) rfl hsize rfl hd hf (W := W) (by show 2 * 0 + _ ≤ _; omega) hlo
  refine own_st st (k T' h' L X' e' N' K (own_arv_AJ B' eb fun i hi => ?_))
  simp only [List.getD_eq_getElem?_getD]
  by_cases q1 : i < dp.toNatClampNeg
  · rw [List.append_assoc, List.getElem?_append_left (by simp; omega), List.getElem?_take_of_lt q1]
    simp [hi, show ¬ (dp.toNatClampNeg ≤ i) from by omega]
  · by_cases q2 : i < dp.toNatClampNeg + nn.toNatClampNeg
    · rw [List.getElem?_append_left (by simp; omega), List.getElem?_append_right (by simp; omega)]
      have q3 : i - min dp.toNatClampNeg nb < nn.toNatClampNeg := by omega
      have q4 : min dp.toNatClampNeg nb = dp.toNatClampNeg := by omega
      have q5 : sp.toNatClampNeg + (i - dp.toNatClampNeg) < na := by omega
      simp [q4, q5, show i - dp.toNatClampNeg < nn.toNatClampNeg from by omega, show dp.toNatClampNeg ≤ i from by omega, q2]
    · rw [List.getElem?_append_right (by simp; omega)]
      have q4 : min dp.toNatClampNeg nb = dp.toNatClampNeg := by omega
      simp only [List.getElem?_drop, List.length_append, List.length_take, List.length_map, List.length_range, q4]
      rw [show dp.toNatClampNeg + nn.toNatClampNeg + (i - (dp.toNatClampNeg + nn.toNatClampNeg)) = i from by omega]
      simp [hi, q2]
end OwnA
end Jvm.RoadKit
namespace Jvm.RoadKit
open Sem ClassFile Op Lib Jvm.Stand Jvm.Free Jvm.LawKit
section OwnB
variable {p : Program} {l : Launch} {e : Env} {R : Room} {s : State} {m : MethodId} {args : Array Value} {below : List Frame} {meth : Method} {c : Code} {T : State} {locs : List Loc} {cells slots : Nat} {Z : State} {a0 : Array Value} {h h' : Heap} {a b : Addr} {n : Nat} {f : Nat → Int32} {r0 : Nat → Value} {Q : Outcome → State → Prop} {ws : List Addr} {sl : Nat} {v : Value}
/-- a byte[] of length n with the components f -/
def own_AB (Z : State) (h : Heap) (a : Addr) (n : Nat) (f : Nat → Int32) : Prop := ∃ c : Cell, Arr Z h a c .byte ∧ c.slots.size = n ∧ n < 2147483648 ∧ (∀ i, i < n → c.slots[i]? = some (.int (f i))) ∧ (∀ i, i < n → fits .byte (.int (f i)) = true) ∧ Exa Z h a "[B"
/-- a byte[][] of length n with the components r0 -/
def own_AR (Z : State) (h : Heap) (a : Addr) (n : Nat) (r0 : Nat → Value) : Prop := ∃ c : Cell, Arr Z h a c (.array .byte) ∧ OvrA Z c.cls .byte "[B" ∧ c.slots.size = n ∧ n < 2147483648 ∧ ∀ i, i < n → c.slots[i]? = some (r0 i)
theorem own_AB_lt (F : own_AB Z h a n f) : a < h.size := by obtain ⟨c, A, -⟩ := F; exact A.lt
theorem own_AR_lt (F : own_AR Z h a n r0) : a < h.size := by obtain ⟨c, A, -⟩ := F; exact A.lt
theorem own_AB_ext (F : own_AB Z h a n f) (E : Ext h h') : own_AB Z h' a n f := by obtain ⟨c, A, r1, r2, r3, r4, r5⟩ := F; exact ⟨c, A.ext E, r1, r2, r3, r4, r5.ext E⟩
theorem own_AR_ext (F : own_AR Z h a n r0) (E : Ext h h') : own_AR Z h' a n r0 := by obtain ⟨c, A, r⟩ := F; exact ⟨c, A.ext E, r⟩
theorem own_AB_other (F : own_AB Z h b n f) (W : Wr h h' a sl v) (q : b ≠ a) : own_AB Z h' b n f := by obtain ⟨c, A, r1, r2, r3, r4, r5⟩ := F; exact ⟨c, A.other W q, r1, r2, r3, r4, r5.wr W⟩
theorem own_AR_other (F : own_AR Z h b n r0) (W : Wr h h' a sl v) (q : b ≠ a) : own_AR Z h' b n r0 := by obtain ⟨c, A, r⟩ := F; exact ⟨c, A.other W q, r⟩
theorem own_AB_keep (F : own_AB Z h a n f) (K : Keep h h' ws) (q : a ∉ ws) : own_AB Z h' a n f := by obtain ⟨c, A, r1, r2, r3, r4, r5⟩ := F; exact ⟨c, ⟨K.2.1 a c A.1 q, A.2⟩, r1, r2, r3, r4, r5.keep K⟩
theorem own_AR_keep (F : own_AR Z h a n r0) (K : Keep h h' ws) (q : a ∉ ws) : own_AR Z h' a n r0 := by obtain ⟨c, A, r⟩ := F; exact ⟨c, ⟨K.2.1 a c A.1 q, A.2⟩, r⟩
/-- every cell below a is as it was -/
def own_Bl (h h' : Heap) (a : Addr) : Prop := h.size ≤ h'.size ∧ ∀ (x : Addr) (c : Cell), h[x]? = some c → x < a → h'[x]? = some c
theorem own_Bl_refl : own_Bl h h a := ⟨Nat.le_refl _, fun _ _ q _ => q⟩
theorem own_Bl_trans {h'' : Heap} (K : own_Bl h h' a) (K' : own_Bl h' h'' a) : own_Bl h h'' a := ⟨Nat.le_trans K.1 K'.1, fun x c q r => K'.2 x c (K.2 x c q r) r⟩
theorem own_Bl_ext {h'' : Heap} (K : own_Bl h h' a) (E : Ext h' h'') : own_Bl h h'' a := own_Bl_trans K ⟨E.1, fun x c q _ => E.2 x c q⟩
theorem own_Bl_wr {a b : Nat} {h'' : Heap} (K : own_Bl h h' a) (W : Wr h' h'' b sl v) (q : a ≤ b) : own_Bl h h'' a := by
  refine own_Bl_trans K ?_
  obtain ⟨cell, h1, -, -, rfl⟩ := W
  exact ⟨by simp, fun x c hx r => by rw [Array.getElem?_setIfInBounds_ne (Nat.ne_of_gt (Nat.lt_of_lt_of_le r q))]; exact hx⟩
theorem own_Bl_keep {a b : Nat} {h'' : Heap} (K : own_Bl h h' a) (W : Keep h' h'' [b]) (q : a ≤ b) : own_Bl h h'' a :=
  own_Bl_trans K ⟨W.1, fun x c hx r => W.2.1 x c hx (fun z => by cases List.mem_singleton.mp z; exact Nat.lt_irrefl _ (Nat.lt_of_lt_of_le r q))⟩
theorem own_AB_bl {a b : Nat} (F : own_AB Z h b n f) (K : own_Bl h h' a) (q : b < a) : own_AB Z h' b n f := by
  obtain ⟨c, A, r1, r2, r3, r4, r5⟩ := F
  obtain ⟨cell, k, h1, r⟩ := r5
  exact ⟨c, ⟨K.2 b c A.1 q, A.2⟩, r1, r2, r3, r4, cell, k, K.2 b cell h1 q, r⟩
theorem own_AB_congr {f' : Nat → Int32} (F : own_AB Z h a n f) (q : ∀ i, i < n → f i = f' i) : own_AB Z h a n f' := by
  obtain ⟨c, A, S, b, H, G, E⟩ := F; exact ⟨c, A, S, b, fun i hi => by rw [H i hi, q i hi], fun i hi => by rw [← q i hi]; exact G i hi, E⟩
theorem own_AB_new {k : ClassId} {z : Int32} (A : Arr Z h a (newA k .byte z) .byte) (E : Exa Z h a "[B") (q : ¬ z < 0) (hn : z.toNatClampNeg = n) : own_AB Z h a n (fun _ => 0) :=
  ⟨_, A, (sz_new _ _ _).trans hn, by subst hn; have := z.toInt_lt; simp only [Int32.toNatClampNeg]; omega, fun i hi => by subst hn; simp [newA, hi]; rfl, fun _ _ => rfl, E⟩
theorem own_AR_new {k : ClassId} {z : Int32} (A : Arr Z h a (newA k (.array .byte) z) (.array .byte)) (O : OvrA Z k .byte "[B") (q : ¬ z < 0) (hn : z.toNatClampNeg = n) : own_AR Z h a n (fun _ => .null) :=
  ⟨_, A, O, (sz_new _ _ _).trans hn, by subst hn; have := z.toInt_lt; simp only [Int32.toNatClampNeg]; omega, fun i hi => by subst hn; simp [newA, hi]; rfl⟩
theorem own_AB_set {x : Int32} {i : Nat} (F : own_AB Z h a n f) (W : Wr h h' a i (.int (nar .byte x))) : own_AB Z h' a n (fun k => if k = i then nar .byte x else f k) := by
  obtain ⟨c, A, S, bn, H, G, E⟩ := F
  refine ⟨_, A.same W, by rw [sz_set]; exact S, bn, fun k hk => ?_, fun k hk => ?_, E.wr W⟩
  · have hk' : k < c.slots.size := S ▸ hk
    by_cases q : k = i
    · subst q; simp [Cell.setSlot, hk']
    · have q' : i ≠ k := fun z => q z.symm
      simp [Cell.setSlot, q, Array.getElem?_setIfInBounds_ne q', H k hk]
  · dsimp only
    by_cases q : k = i
    · rw [if_pos q]; exact fits_nar_byte x
    · rw [if_neg q]; exact G k hk
theorem own_AR_set {i : Nat} (F : own_AR Z h a n r0) (W : Wr h h' a i v) : own_AR Z h' a n (fun k => if k = i then v else r0 k) := by
  obtain ⟨c, A, O, S, bn, H⟩ := F
  refine ⟨_, A.same W, O, by rw [sz_set]; exact S, bn, fun k hk => ?_⟩
  have hk' : k < c.slots.size := S ▸ hk
  by_cases q : k = i
  · subst q; simp [Cell.setSlot, hk']
  · have q' : i ≠ k := fun z => q z.symm
    simp [Cell.setSlot, q, Array.getElem?_setIfInBounds_ne q', H k hk]
theorem own_baload (X : Stand p l e R s m args below meth c T locs cells slots) (hx : p.tables.exec = Jvm.exec) (hZ : Z.Warmed39 s.vm) (eT : T.heap = h) (F : own_AB Z h a n f) {j : Int32} {i : Nat} (hj : ¬ j < 0) (hji : j.toNatClampNeg = i) (hi : i < n)
    {pc : Nat} {Ls : Array Slot} {rest : List Value} (hd : decode c.code pc = .ok (.baload, 1)) (k : own_Out p e below Q (T.setTop (mkF m (pc + 1) Ls (.int (f i) :: rest)))) : own_Out p e below Q (T.setTop (mkF m pc Ls (.int j :: .ref a :: rest))) := by
  obtain ⟨cl, A, S, bn, H, -⟩ := F
  subst hji
  exact own_st (fun t q => X.baloadBytes hx (by rw [eT]; exact A.1) (State.isArrayOf_alike hZ.alike A.2.1) A.2.2 (by rw [S]; exact fun q => q.elim hj (Nat.not_le_of_lt hi)) (H _ hi) (g := mkF m pc Ls (.int j :: .ref a :: rest)) rfl rfl hd t q) k
theorem own_aaload (X : Stand p l e R s m args below meth c T locs cells slots) (hx : p.tables.exec = Jvm.exec) (hZ : Z.Warmed39 s.vm) (eT : T.heap = h) (F : own_AR Z h a n r0) {j : Int32} {i : Nat} (hj : ¬ j < 0) (hji : j.toNatClampNeg = i) (hi : i < n) (hv : r0 i = v)
    {pc : Nat} {Ls : Array Slot} {rest : List Value} (hd : decode c.code pc = .ok (.aaload, 1)) (k : own_Out p e below Q (T.setTop (mkF m (pc + 1) Ls (v :: rest)))) : own_Out p e below Q (T.setTop (mkF m pc Ls (.int j :: .ref a :: rest))) := by
  obtain ⟨cl, A, O, S, bn, H⟩ := F
  subst hji hv
  exact own_st (fun t q => X.aaload hx (by rw [eT]; exact A.1) (State.isArrayOf_alike hZ.alike A.2.1) rfl A.2.2 (by rw [S]; exact fun q => q.elim hj (Nat.not_le_of_lt hi)) (H _ hi) (g := mkF m pc Ls (.int j :: .ref a :: rest)) rfl rfl hd t q) k
theorem own_lenB (X : Stand p l e R s m args below meth c T locs cells slots) (hx : p.tables.exec = Jvm.exec) (hZ : Z.Warmed39 s.vm) (eT : T.heap = h) (F : own_AB Z h a n f) {z : Int32} (hz : n.toInt32 = z)
    {pc : Nat} {Ls : Array Slot} {rest : List Value} (hd : decode c.code pc = .ok (.arraylength, 1)) (k : own_Out p e below Q (T.setTop (mkF m (pc + 1) Ls (.int z :: rest)))) : own_Out p e below Q (T.setTop (mkF m pc Ls (.ref a :: rest))) := by
  obtain ⟨cl, A, S, bn, H, -⟩ := F
  exact own_st (fun t q => X.arraylength hx (by rw [eT]; exact A.1) (State.isArrayOf_alike hZ.alike A.2.1) (g := mkF m pc Ls (.ref a :: rest)) rfl rfl hd t (by rw [S, hz]; exact q)) k
theorem own_lenR (X : Stand p l e R s m args below meth c T locs cells slots) (hx : p.tables.exec = Jvm.exec) (hZ : Z.Warmed39 s.vm) (eT : T.heap = h) (F : own_AR Z h a n r0) {z : Int32} (hz : n.toInt32 = z)
    {pc : Nat} {Ls : Array Slot} {rest : List Value} (hd : decode c.code pc = .ok (.arraylength, 1)) (k : own_Out p e below Q (T.setTop (mkF m (pc + 1) Ls (.int z :: rest)))) : own_Out p e below Q (T.setTop (mkF m pc Ls (.ref a :: rest))) := by
  obtain ⟨cl, A, O, S, bn, H⟩ := F
  exact own_st (fun t q => X.arraylength hx (by rw [eT]; exact A.1) (State.isArrayOf_alike hZ.alike A.2.1) (g := mkF m pc Ls (.ref a :: rest)) rfl rfl hd t (by rw [S, hz]; exact q)) k
theorem own_bastore (X : Stand p l e R s m args below meth c T locs cells slots) (hx : p.tables.exec = Jvm.exec) (hZ : Z.Warmed39 s.vm) (eT : T.heap = h) (F : own_AB Z h a n f) {j : Int32} {x : Int32} {i : Nat} (hj : ¬ j < 0) (hji : j.toNatClampNeg = i) (hi : i < n)
    {pc : Nat} {Ls : Array Slot} {rest : List Value} (hd : decode c.code pc = .ok (.bastore, 1)) (k : ∀ T' h', Stand p l e R s m args below meth c T' (locs ++ [⟨a, i⟩]) cells slots → T'.heap = h' → Wr h h' a i (.int (nar .byte x)) → own_AB Z h' a n (fun k => if k = i then nar .byte x else f k) → own_Out p e below Q (T'.setTop (mkF m (pc + 1) Ls rest))) : own_Out p e below Q (T.setTop (mkF m pc Ls (.int x :: .int j :: .ref a :: rest))) := by
  have F' := F
  obtain ⟨cl, A, S, bn, H, -⟩ := F
  subst hji
  obtain ⟨T', h', X', e', W, st⟩ := stB X hx hZ eT A (j := j) (x := x) (by rw [S]; exact fun q => q.elim hj (Nat.not_le_of_lt hi)) (g := mkF m pc Ls (.int x :: .int j :: .ref a :: rest)) rfl rfl hd
  exact own_st st (k T' h' X' e' W (own_AB_set F' W))
theorem own_aastore (X : Stand p l e R s m args below meth c T locs cells slots) (hx : p.tables.exec = Jvm.exec) (hZ : Z.Warmed39 s.vm) (eT : T.heap = h) (F : own_AR Z h a n r0) (I : v = .null ∨ ∃ b n' f', v = .ref b ∧ own_AB Z h b n' f') {j : Int32} {i : Nat} (hj : ¬ j < 0) (hji : j.toNatClampNeg = i) (hi : i < n)
    {pc : Nat} {Ls : Array Slot} {rest : List Value} (hd : decode c.code pc = .ok (.aastore, 1)) (k : ∀ T' h', Stand p l e R s m args below meth c T' (locs ++ [⟨a, i⟩]) cells slots → T'.heap = h' → Wr h h' a i v → own_AR Z h' a n (fun k => if k = i then v else r0 k) → own_Out p e below Q (T'.setTop (mkF m (pc + 1) Ls rest))) : own_Out p e below Q (T.setTop (mkF m pc Ls (v :: .int j :: .ref a :: rest))) := by
  have F' := F
  obtain ⟨cl, A, O, S, bn, H⟩ := F
  subst hji
  have St : Sto Z h a v := by
    rcases I with rfl | ⟨b, n', f', rfl, G⟩
    · exact Or.inl rfl
    · obtain ⟨-, -, -, -, -, -, E⟩ := G
      exact Sto.ofVA A rfl O (Ins.self E)
  obtain ⟨T', h', X', e', W, st⟩ := stR X hx hZ eT A (j := j) (by rw [S]; exact fun q => q.elim hj (Nat.not_le_of_lt hi)) rfl St (g := mkF m pc Ls (v :: .int j :: .ref a :: rest)) rfl rfl hd
  exact own_st st (k T' h' X' e' W (own_AR_set F' W))
theorem own_AB_arv (F : own_AB Z h a n f) : ∃ k z, ¬ z < 0 ∧ z.toNatClampNeg = n ∧ Arv Z h a k .byte z ((List.range n).map fun i => .int (f i)) (.int 0) := by
  obtain ⟨c, A, S, bn, H, G, -⟩ := F
  have e1 : (Int32.ofNat n).toInt = n := Int32.toInt_ofNat_of_lt (by omega)
  have e2 : (Int32.ofNat n).toNatClampNeg = n := by simp only [Int32.toNatClampNeg, e1]; omega
  have gd : ∀ i, i < n → ((List.range n).map fun i => Value.int (f i)).getD i (.int 0) = .int (f i) := fun i hi => by simp [List.getD_eq_getElem?_getD, hi]
  refine ⟨c.cls, Int32.ofNat n, ?_, e2, c, A, rfl, by rw [S, e2], ?_, fun i hi => ?_, fun i hi => ?_⟩
  · rw [Int32.lt_iff_toInt_lt, e1]; have : (0 : Int32).toInt = 0 := rfl; omega
  · rw [Int32.lt_iff_toInt_lt, e1]; have : (0 : Int32).toInt = 0 := rfl; omega
  · rw [gd i (S ▸ hi)]; exact H i (S ▸ hi)
  · rw [gd i (S ▸ hi)]; exact G i (S ▸ hi)
theorem own_arv_AB {k : ClassId} {z : Int32} {vs : List Value} {dv : Value} (F : Arv Z h a k .byte z vs dv) (E : Exa Z h a "[B") (hn : z.toNatClampNeg = n) (hv : ∀ i, i < n → vs.getD i dv = .int (f i)) : own_AB Z h a n f := by
  obtain ⟨c, A, -, S, q, H, G⟩ := F
  exact ⟨c, A, S.trans hn, by subst hn; have := z.toInt_lt; simp only [Int32.toNatClampNeg]; omega, fun i hi => by rw [H i (by rw [S, hn]; exact hi), hv i hi], fun i hi => by rw [← hv i hi]; exact G i (by rw [S, hn]; exact hi), E⟩
theorem own_arraycopyB (X : Stand p l e R s m args below meth c T locs cells slots) (hx : p.tables.exec = Jvm.exec) (hZ : Z.Warmed39 s.vm) {own : String} {index : Nat} (hown : s.vm.findClass own = some m.cls)
    (w1 : (Cond.methodLink own index Jvm.Stand.acN).before a0 Z = true) (w2 : (Cond.native Jvm.Stand.acN).before a0 Z = true) (w3 : (Cond.static Jvm.Stand.acN).before a0 Z = true) (w4 : (Cond.initialized "java/lang/System").before a0 Z = true) (eT : T.heap = h)
    {na nb : Nat} {fa fb : Nat → Int32} (A : own_AB Z h a na fa) (B : own_AB Z h b nb fb) {sp dp nn : Int32} {i1 i2 i3 : Nat} (h1 : ¬ sp < 0) (h2 : ¬ dp < 0) (h3 : ¬ nn < 0) (e1 : sp.toNatClampNeg = i1) (e2 : dp.toNatClampNeg = i2) (e3 : nn.toNatClampNeg = i3) (h4 : i1 + i3 ≤ na) (h5 : i2 + i3 ≤ nb)
    {n0 : Nat} (N : Fr n0 locs) (ge : n0 ≤ b) {pc : Nat} {Ls : Array Slot} {rest : List Value} (hsize : Ls.size = c.maxLocals) (hd : decode c.code pc = .ok (.invokestatic index, 3)) (hf : 1 ≤ R.frames) (W : Nat) (hW : (rest.map fun v => v.category).sum ≤ W) (hlo : W + 18 ≤ R.locals)
    (k : ∀ T' h' L, Stand p l e R s m args below meth c T' L cells slots → T'.heap = h' → Fr n0 L → Keep h h' [b] → own_AB Z h' b nb (fun i => if i2 ≤ i ∧ i < i2 + i3 then fa (i1 + (i - i2)) else fb i) → own_Out p e below Q (T'.setTop (mkF m (pc + 3) Ls rest))) :
    own_Out p e below Q (T.setTop (mkF m pc Ls (.int nn :: .int dp :: .ref b :: .int sp :: .ref a :: rest))) := by
  obtain ⟨ka, za, qa, ea, FA⟩ := own_AB_arv A
  obtain ⟨kb, zb, qb, eb, FB⟩ := own_AB_arv B
  subst e1 e2 e3
  obtain ⟨T', h', L, X', e', N', K, B', st⟩ := cpA X hx hZ hown w1 w2 w3 w4 eT FA FB (Or.inl ⟨rfl, rfl⟩) h1 h2 h3 (by rw [ea]; exact h4) (by rw [eb]; exact h5) rfl (by simp; exact h5) N ge (g := mkF m pc Ls (.int nn :: .int dp :: .ref b :: .int sp :: .ref a :: rest)) rfl hsize rfl hd hf (W := W) (by show 2 * 0 + _ ≤ _; omega) hlo
  obtain ⟨-, -, -, -, -, -, EB⟩ := B
  refine own_st st (k T' h' L X' e' N' K (own_arv_AB B' (EB.keep K) eb fun i hi => ?_))
  simp only [List.getD_eq_getElem?_getD]
  by_cases q1 : i < dp.toNatClampNeg
  · rw [List.append_assoc, List.getElem?_append_left (by simp; omega), List.getElem?_take_of_lt q1]
    simp [hi, show ¬ (dp.toNatClampNeg ≤ i) from by omega]
  · by_cases q2 : i < dp.toNatClampNeg + nn.toNatClampNeg
    · rw [List.getElem?_append_left (by simp; omega), List.getElem?_append_right (by simp; omega)]
      have q3 : i - min dp.toNatClampNeg nb < nn.toNatClampNeg := by omega
      have q4 : min dp.toNatClampNeg nb = dp.toNatClampNeg := by omega
      have q5 : sp.toNatClampNeg + (i - dp.toNatClampNeg) < na := by omega
      simp [q4, q5, show i - dp.toNatClampNeg < nn.toNatClampNeg from by omega, show dp.toNatClampNeg ≤ i from by omega, q2]
    · rw [List.getElem?_append_right (by simp; omega)]
      have q4 : min dp.toNatClampNeg nb = dp.toNatClampNeg := by omega
      simp only [List.getElem?_drop, List.length_append, List.length_take, List.length_map, List.length_range, q4]
      rw [show dp.toNatClampNeg + nn.toNatClampNeg + (i - (dp.toNatClampNeg + nn.toNatClampNeg)) = i from by omega]
      simp [hi, q2]
theorem own_AB_fit {cl : Cell} (A : Arr Z h a cl .byte) (H : ∀ i, i < cl.slots.size → cl.slots[i]? = some (.int (f i))) (G : ∀ i, i < cl.slots.size → fits .byte (.int (f i)) = true) : FitC Z cl := fun i v hv => by
  obtain ⟨hi, -⟩ := Array.getElem?_eq_some_iff.mp hv
  rw [H i hi] at hv
  obtain rfl := Option.some.inj hv
  obtain ⟨-, k, hk, comp, hkind⟩ := A.2.1
  simp [State.fitsSlot, State.slotType?, hk, hkind, G i hi]
theorem own_clone (X : Stand p l e R s m args below meth c T locs cells slots) (hx : p.tables.exec = Jvm.exec) (hZ : Z.Warmed39 s.vm) {own : String} {index : Nat} (hown : s.vm.findClass own = some m.cls)
    (w1 : (Cond.methodLink own index ⟨"[B", "clone", "()Ljava/lang/Object;"⟩).before a0 Z = true) (w2 : (Cond.sameMethod "[B" "java/lang/Object" "clone" "()Ljava/lang/Object;").before a0 Z = true) (w3 : (Cond.native ⟨"java/lang/Object", "clone", "()Ljava/lang/Object;"⟩).before a0 Z = true)
    (w4 : (Cond.instanceMethod ⟨"java/lang/Object", "clone", "()Ljava/lang/Object;"⟩).before a0 Z = true) (w5 : (Cond.selects "[B" ⟨"[B", "clone", "()Ljava/lang/Object;"⟩ ⟨"java/lang/Object", "clone", "()Ljava/lang/Object;"⟩).before a0 Z = true) (w6 : (Cond.castable "[B" "java/lang/Cloneable").before a0 Z = true)
    (eT : T.heap = h) (F : own_AB Z h a n f) {pc : Nat} {Ls : Array Slot} {rest : List Value} (hsize : Ls.size = c.maxLocals) (hd : decode c.code pc = .ok (.invokevirtual index, 3))
    (hf : 1 ≤ R.frames) (W cap : Nat) (hW : (rest.map fun v => v.category).sum ≤ W) (hl : W + 14 ≤ R.locals) (hcap : n ≤ cap) (hc : cells + 1 ≤ R.cells) (hsl : slots + cap ≤ R.slots)
    (k : ∀ T' h', Stand p l e R s m args below meth c T' locs (cells + 1) (slots + cap) → T'.heap = h' → Ext h h' → own_AB Z h' h.size n f → own_Out p e below Q (T'.setTop (mkF m (pc + 3) Ls (.ref h.size :: rest)))) :
    own_Out p e below Q (T.setTop (mkF m pc Ls (.ref a :: rest))) := by
  obtain ⟨cl, A, S, bn, H, G, E⟩ := F
  obtain ⟨T', h', X', e', ex, A', E', st⟩ := cloneA X hx hZ hown w1 w2 w3 w4 w5 w6 eT A E (own_AB_fit A (S ▸ H) (S ▸ G)) (g := mkF m pc Ls (.ref a :: rest)) rfl hsize rfl hd hf (W := W) (cap := cap) (by show 2 * 0 + _ ≤ _; omega) hl (by rw [S]; exact hcap) hc hsl
  exact own_st st (k T' h' X' e' ex ⟨_, A', S, bn, H, G, E'⟩)
theorem own_AB_ins (F : own_AB Z h a n f) : Ins Z h a "[B" true := by obtain ⟨-, -, -, -, -, -, E⟩ := F; exact Ins.self E
theorem own_ext_keep {h0 : Heap} (E : Ext h0 h) (K : Keep h h' [b]) (q : h0.size ≤ b) : Ext h0 h' :=
  ⟨Nat.le_trans E.1 K.1, fun x c hx => K.2.1 x c (E.2 x c hx) (fun z => by cases List.mem_singleton.mp z; exact Nat.lt_irrefl _ (Nat.lt_of_lt_of_le (Array.getElem?_eq_some_iff.mp hx).1 q))⟩
theorem own_Bl_of_ext (E : Ext h h') : own_Bl h h' a := ⟨E.1, fun x c q _ => E.2 x c q⟩
theorem own_AB_fits {i : Nat} (F : own_AB Z h a n f) (hi : i < n) : nar .byte (f i) = f i := by
  obtain ⟨-, -, -, -, -, G, -⟩ := F
  have g := G i hi
  have q : -128 ≤ f i ∧ f i ≤ 127 := by simpa [fits] using g
  show (f i).toInt8.toInt32 = f i
  have q1 : -128 ≤ (f i).toInt := by have := Int32.le_iff_toInt_le.mp q.1; simpa using this
  have q2 : (f i).toInt ≤ 127 := by have := Int32.le_iff_toInt_le.mp q.2; simpa using this
  refine Int32.toInt_inj.mp ?_
  rw [Int8.toInt_toInt32, Int32.toInt_toInt8]
  exact Int.bmod_eq_of_le (by omega) (by omega)
end OwnB
end Jvm.RoadKit
namespace Jvm.RoadKit
open Sem ClassFile Op Lib Jvm.Stand Jvm.Free Jvm.LawKit
section OwnC
variable {p : Program} {l : Launch} {e : Env} {R : Room} {s : State} {m : MethodId} {args : Array Value} {below : List Frame} {meth : Method} {c : Code} {T : State} {locs : List Loc} {cells slots : Nat} {Z : State} {a0 : Array Value} {h h' : Heap} {a b : Addr} {n : Nat} {f : Nat → Int32} {Q : Outcome → State → Prop} {ws : List Addr} {sl : Nat} {v : Value}
/-- a char[] of length n with the components f -/
def own_AC (Z : State) (h : Heap) (a : Addr) (n : Nat) (f : Nat → Int32) : Prop := ∃ c : Cell, Arr Z h a c .char ∧ c.slots.size = n ∧ n < 2147483648 ∧ ∀ i, i < n → c.slots[i]? = some (.int (f i))
theorem own_AC_lt (F : own_AC Z h a n f) : a < h.size := by obtain ⟨c, A, -⟩ := F; exact A.lt
theorem own_AC_ext (F : own_AC Z h a n f) (E : Ext h h') : own_AC Z h' a n f := by obtain ⟨c, A, r⟩ := F; exact ⟨c, A.ext E, r⟩
theorem own_AC_other (F : own_AC Z h b n f) (W : Wr h h' a sl v) (q : b ≠ a) : own_AC Z h' b n f := by obtain ⟨c, A, r⟩ := F; exact ⟨c, A.other W q, r⟩
theorem own_AC_keep (F : own_AC Z h a n f) (K : Keep h h' ws) (q : a ∉ ws) : own_AC Z h' a n f := by obtain ⟨c, A, r⟩ := F; exact ⟨c, ⟨K.2.1 a c A.1 q, A.2⟩, r⟩
theorem own_AC_congr {f' : Nat → Int32} (F : own_AC Z h a n f) (q : ∀ i, i < n → f i = f' i) : own_AC Z h a n f' := by obtain ⟨c, A, S, b, H⟩ := F; exact ⟨c, A, S, b, fun i hi => by rw [H i hi, q i hi]⟩
theorem own_AC_new {k : ClassId} {z : Int32} (A : Arr Z h a (newA k .char z) .char) (q : ¬ z < 0) (hn : z.toNatClampNeg = n) : own_AC Z h a n (fun _ => 0) :=
  ⟨_, A, (sz_new _ _ _).trans hn, by subst hn; have := z.toInt_lt; simp only [Int32.toNatClampNeg]; omega, fun i hi => by subst hn; simp [newA, hi]; rfl⟩
theorem own_AC_set {x : Int32} {i : Nat} (F : own_AC Z h a n f) (W : Wr h h' a i (.int x)) : own_AC Z h' a n (fun k => if k = i then x else f k) := by
  obtain ⟨c, A, S, bn, H⟩ := F
  refine ⟨_, A.same W, by rw [sz_set]; exact S, bn, fun k hk => ?_⟩
  have hk' : k < c.slots.size := S ▸ hk
  by_cases q : k = i
  · subst q; simp [Cell.setSlot, hk']
  · have q' : i ≠ k := fun z => q z.symm
    simp [Cell.setSlot, q, Array.getElem?_setIfInBounds_ne q', H k hk]
theorem own_caload (X : Stand p l e R s m args below meth c T locs cells slots) (hx : p.tables.exec = Jvm.exec) (hZ : Z.Warmed39 s.vm) (eT : T.heap = h) (F : own_AC Z h a n f) {j : Int32} {i : Nat} (hj : ¬ j < 0) (hji : j.toNatClampNeg = i) (hi : i < n)
    {pc : Nat} {Ls : Array Slot} {rest : List Value} (hd : decode c.code pc = .ok (.caload, 1)) (k : own_Out p e below Q (T.setTop (mkF m (pc + 1) Ls (.int (f i) :: rest)))) : own_Out p e below Q (T.setTop (mkF m pc Ls (.int j :: .ref a :: rest))) := by
  obtain ⟨cl, A, S, bn, H⟩ := F
  subst hji
  exact own_st (fun t q => X.caload hx (by rw [eT]; exact A.1) (State.isArrayOf_alike hZ.alike A.2.1) A.2.2 (by rw [S]; exact fun q => q.elim hj (Nat.not_le_of_lt hi)) (H _ hi) (g := mkF m pc Ls (.int j :: .ref a :: rest)) rfl rfl hd t q) k
theorem own_lenC (X : Stand p l e R s m args below meth c T locs cells slots) (hx : p.tables.exec = Jvm.exec) (hZ : Z.Warmed39 s.vm) (eT : T.heap = h) (F : own_AC Z h a n f) {z : Int32} (hz : n.toInt32 = z)
    {pc : Nat} {Ls : Array Slot} {rest : List Value} (hd : decode c.code pc = .ok (.arraylength, 1)) (k : own_Out p e below Q (T.setTop (mkF m (pc + 1) Ls (.int z :: rest)))) : own_Out p e below Q (T.setTop (mkF m pc Ls (.ref a :: rest))) := by
  obtain ⟨cl, A, S, bn, H⟩ := F
  exact own_st (fun t q => X.arraylength hx (by rw [eT]; exact A.1) (State.isArrayOf_alike hZ.alike A.2.1) (g := mkF m pc Ls (.ref a :: rest)) rfl rfl hd t (by rw [S, hz]; exact q)) k
theorem own_castore (X : Stand p l e R s m args below meth c T locs cells slots) (hx : p.tables.exec = Jvm.exec) (hZ : Z.Warmed39 s.vm) (eT : T.heap = h) (F : own_AC Z h a n f) {j : Int32} {x : Int32} {i : Nat} (hj : ¬ j < 0) (hji : j.toNatClampNeg = i) (hi : i < n)
    {pc : Nat} {Ls : Array Slot} {rest : List Value} (hd : decode c.code pc = .ok (.castore, 1)) (k : ∀ T' h', Stand p l e R s m args below meth c T' (locs ++ [⟨a, i⟩]) cells slots → T'.heap = h' → Wr h h' a i (.int (nar .char x)) → own_AC Z h' a n (fun k => if k = i then nar .char x else f k) → own_Out p e below Q (T'.setTop (mkF m (pc + 1) Ls rest))) : own_Out p e below Q (T.setTop (mkF m pc Ls (.int x :: .int j :: .ref a :: rest))) := by
  have F' := F
  obtain ⟨cl, A, S, bn, H⟩ := F
  subst hji
  obtain ⟨T', h', X', e', W, st⟩ := stC X hx hZ eT A (j := j) (x := x) (by rw [S]; exact fun q => q.elim hj (Nat.not_le_of_lt hi)) (g := mkF m pc Ls (.int x :: .int j :: .ref a :: rest)) rfl rfl hd
  exact own_st st (k T' h' X' e' W (own_AC_set F' W))
end OwnC
end Jvm.RoadKit
namespace Jvm.RoadKit
open Sem ClassFile Op Lib Jvm.Stand Jvm.Free Jvm.LawKit
section OwnV
variable {p : Program} {l : Launch} {e : Env} {R : Room} {s : State} {m : MethodId} {args : Array Value} {below : List Frame} {meth : Method} {c : Code} {T : State} {locs : List Loc} {cells slots : Nat} {Z : State} {a0 : Array Value} {h : Heap}
/-- as own_Q, of a callee that may intern; Q sees the tables -/
def own_QV (Q : Option Value → Vm → Heap → List Loc → Prop) (s : State) (k n : Nat) : Outcome → State → Prop :=
  fun o U => ∃ v L, o = .returned v ∧ Q v U.vm U.heap L ∧ ReturnedEndW s o U L k n
theorem own_ret0V {vm1 : Vm} (X : Stand p l e R (s.setVm vm1) m args below meth c T locs cells slots) (hx : p.tables.exec = Jvm.exec) {n1 : Nat} (hS : s.Since vm1 n1) (hn : n1 ≤ T.heap.size) {Q : Option Value → Vm → Heap → List Loc → Prop} {k n : Nat} {pc : Nat} {Ls : Array Slot}
    (hret : meth.sig.returnType = none) (hlk : meth.locks = false) (hd : decode c.code pc = .ok (.return_, 1)) (hc : cells ≤ k) (hs : slots ≤ n)
    (hq : Q none T.vm T.heap locs) : own_Out p e below (own_QV Q s k n) (T.setTop (mkF m pc Ls [])) := by
  obtain ⟨fs, hr, hrun, hended, hv, hW, hB, hsame⟩ := X.leaveW hS hn (v := none) (fun _ => rfl) hlk
  exact ⟨_, _, X.returnOut hx hret hd hr, hrun, hended, _, _, rfl, hq, hv, hW, hB, hsame.mono hc hs⟩
theorem own_retAV {vm1 : Vm} (X : Stand p l e R (s.setVm vm1) m args below meth c T locs cells slots) (hx : p.tables.exec = Jvm.exec) {n1 : Nat} (hS : s.Since vm1 n1) (hn : n1 ≤ T.heap.size) {Q : Option Value → Vm → Heap → List Loc → Prop} {k n : Nat} {pc : Nat} {Ls : Array Slot} {w : Value} {t : FieldType} {rest : List Value}
    (hret : meth.sig.returnType = some t) (ht : t.isReference = true) (hw : w.isRef = true) (hlk : meth.locks = false) (hd : decode c.code pc = .ok (.areturn, 1)) (hc : cells ≤ k) (hs : slots ≤ n)
    (hq : Q (some w) T.vm T.heap locs) : own_Out p e below (own_QV Q s k n) (T.setTop (mkF m pc Ls (w :: rest))) := by
  obtain ⟨fs, hr, hrun, hended, hv, hW, hB, hsame⟩ := X.leaveW hS hn (v := some w) (fun h => by rw [hret] at h; cases h) hlk
  exact ⟨_, _, retOut X hx hret (by cases t <;> first | (cases ht; done) | rfl | (cases w <;> rfl)) (Or.inr (Or.inr (Or.inr (Or.inr ⟨rfl, ht, hw⟩)))) hd hr, hrun, hended, _, _, rfl, hq, hv, hW, hB, hsame.mono hc hs⟩
theorem own_bodyV {x : MethodName} {code : ByteArray} {maxL : Nat} {ret : Option FieldType} {ws : List Jvm.Cond} {rm : Room} {as' : Array Value} {Q : Option Value → Vm → Heap → List Loc → Prop} {G : Vm → Prop} (hpn : plainFor x = true) (Lf : Array Slot)
    (hent : ∀ m, entryFrame m as' maxL = mkF m 0 Lf [])
    (body : ∀ p e s m below meth c T, Stand p l e rm s m as' below meth c T [] 0 0 → p.tables.exec = Jvm.exec → c.code = code → c.maxLocals = maxL → meth.sig.returnType = ret → meth.locks = false →
      s.vm.findClass x.cls = some m.cls → meth.name = x.name → Z.Warmed39 s.vm → T.heap = h → s.heap = h → G s.vm → own_Out p e below (own_QV Q s rm.cells rm.slots) (T.setTop (mkF m 0 Lf []))) :
    MetFree l x (head1 (Jvm.Cond.code x code maxL ret :: ws) rm) (fun a U => a = as' ∧ Z.Warmed39 U.vm ∧ U.heap = h ∧ G U.vm) (fun _ _ _ _ _ => True)
      (fun _ U o U' => own_QV Q U rm.cells rm.slots o U') := by
  refine MetFree.of_bodySF hpn hisR ?_
  intro p e s m args below meth c s₁ Bd hml0 hP hK
  obtain ⟨rfl, hZ, hh, hG⟩ := hP
  have e0 : s₁.heap = h := by rw [← hh, Bd.state]; rfl
  obtain ⟨s2, o, h1, h2⟩ := body p e s m below meth c s₁ (Stand.of_body Bd) Bd.exec Bd.bytes hml0 Bd.returns (BodyLoose.notSynchronized Bd) (findClass_of_methodNamed Bd.named) (name_of_methodNamed Bd.named Bd.method).1 hZ e0 hh hG
  exact ⟨s2, o, castTop (hent m) h1, h2⟩
theorem own_backV {y : MethodName} {bytes : ByteArray} {maxL : Nat} {ret : Option FieldType} {rm : Room} {len W : Nat} {as' : Array Value} {Q : Option Value → Vm → Heap → List Loc → Prop} {G : Vm → Prop}
    (hM : MetFree l y (head1 [Cond.code y bytes maxL ret] rm) (fun a U => a = as' ∧ Z.Warmed39 U.vm ∧ U.heap = h ∧ G U.vm) (fun _ _ _ _ _ => True) (fun _ U o U' => own_QV Q U rm.cells rm.slots o U'))
    (hZ : Z.Warmed39 s.vm) (wc : (Cond.code y bytes maxL ret).before a0 Z = true) (wz : (Cond.initialized y.cls).before a0 Z = true) (hf : rm.frames + 1 ≤ R.frames) (hl : W + (maxL + 11) + rm.locals ≤ R.locals) :
    BackS l R p e below s args y len W (fun A a => a = as' ∧ A.U.heap = h ∧ G A.U.vm ∧ A.cells + rm.cells ≤ R.cells ∧ A.slots + rm.slots ≤ R.slots)
      (fun A _ v B => ∃ L, Q v B.U.vm B.U.heap L ∧ B.locs = A.locs ++ L ∧ B.cells = A.cells + rm.cells ∧ B.slots = A.slots + rm.slots) :=
  BackS.of_freeW (bytes := bytes) (maxL := maxL) (ret := ret) (E := fun _ _ o t L k n => k = rm.cells ∧ n = rm.slots ∧ ∃ v, o = .returned v ∧ Q v t.vm t.heap L) hM hf hl
    (fun m meth c A a Y hp => have hU : Z.Warmed39 A.U.vm := wtrans hZ Y.warmed
      ⟨by show (Cond.and _ .tt).before a A.U = true; rw [Cond.before_and, mv hU wc]; rfl, mv hU wc, mv hU wz, hp.2.2.2.1, hp.2.2.2.2⟩)
    (fun m meth c A a g mk Y hp => ⟨hp.1, wtrans hZ Y.warmed, hp.2.1, hp.2.2.1⟩) (fun _ _ _ _ _ _ _ _ _ => trivial)
    (fun _ _ _ _ ⟨v, L, h1, h2, h3⟩ => ⟨L, _, _, h3, rfl, rfl, v, h1, h2⟩)
    (fun m meth c A a g mk v t L k n Y hp _ _ ⟨e1, e2, v', e3, e4⟩ => by cases e3; subst e1 e2; exact ⟨L, e4, rfl, rfl, rfl⟩)
/-- a static callee that may intern -/
theorem own_callSW {vm0 : Vm} {k0 : Nat} (X : Stand p l e R (s.setVm vm0) m args below meth c T locs cells slots) (hx : p.tables.exec = Jvm.exec) (hS : s.Since vm0 k0) (hk : k0 ≤ T.heap.size) (hZ : Z.Warmed39 (s.setVm vm0).vm) {own : String} {index : Nat} {y : MethodName} {bytes : ByteArray} {maxL : Nat} {ret : Option FieldType} {rm : Room} {as' : List Value} {Q : Option Value → Vm → Heap → List Loc → Prop} {G : Vm → Prop} {Qf : Outcome → State → Prop}
    (hown : (s.setVm vm0).vm.findClass own = some m.cls) (w1 : (Jvm.Cond.methodLink own index y).before a0 Z = true) (w2 : (Jvm.Cond.static y).before a0 Z = true) (w3 : (Jvm.Cond.initialized y.cls).before a0 Z = true) (w4 : (Jvm.Cond.code y bytes maxL ret).before a0 Z = true)
    (hy : y.cls ≠ "java/lang/invoke/MethodHandle" ∧ y.cls ≠ "java/lang/invoke/VarHandle")
    (hM : MetFree l y (head1 [Jvm.Cond.code y bytes maxL ret] rm) (fun a U => a = as'.toArray ∧ Z.Warmed39 U.vm ∧ U.heap = h ∧ G U.vm) (fun _ _ _ _ _ => True) (fun _ U o U' => own_QV Q U rm.cells rm.slots o U')) (hG : ∀ vm₁, (s.setVm vm0).WarmedH vm₁ → G vm₁)
    (W : Nat) (hf : rm.frames + 1 ≤ R.frames) (hl : W + (maxL + 11) + rm.locals ≤ R.locals) (hc : cells + rm.cells ≤ R.cells) (hs : slots + rm.slots ≤ R.slots)
    {pc : Nat} {Ls : Array Slot} {stk rest : List Value} (hsize : Ls.size = c.maxLocals) (hlen : ∀ sig, parseMethodDescriptor y.desc = some sig → as'.length = sig.parameters.length) (hstack : stk = as'.reverse ++ rest) (hW : (rest.map fun v => v.category).sum ≤ W) (hd : decode c.code pc = .ok (.invokestatic index, 3)) (eT : T.heap = h)
    (k : ∀ T' L v, Stand p l e R (s.setVm T'.vm) m args below meth c T' (locs ++ L) (cells + rm.cells) (slots + rm.slots) → s.Since T'.vm T'.heap.size → Z.Warmed39 (s.setVm T'.vm).vm → (s.setVm T'.vm).vm.findClass own = some m.cls → Q v T'.vm T'.heap L → own_Out p e below Qf (T'.setTop (mkF m (pc + 3) Ls (v.toList ++ rest)))) :
    own_Out p e below Qf (T.setTop (mkF m pc Ls stk)) := by
  obtain ⟨v, vm₁, ⟨T', L', k', n'⟩, -, X', hS', hgr, ⟨Lc, hQ, hl', hy', hz'⟩, st⟩ := callSS X hx (y := y) hown (mvT hZ w1) (mvT hZ w2) (mvT hZ w3) (mvT hZ w4) hy (own_backV (W := W) hM hZ w4 w3 hf hl) (g := mkF m pc Ls stk) rfl hsize (argsL := as') (rest := rest) hlen hstack (by show 2 * 0 + _ ≤ _; omega) hd (fun vm₁ hw => ⟨rfl, eT, hG vm₁ hw, hc, hs⟩)
  dsimp only [Pt.U, Pt.locs, Pt.cells, Pt.slots] at X' hS' hgr hl' hy' hz' st hQ
  subst hl' hy' hz'
  obtain ⟨q1, q2, q3, q4⟩ := rebS hS hk X' hS' hgr hZ hown
  exact own_tr st (k _ _ _ q1 q2 q3 q4 hQ)
/-- a constructor that may intern -/
theorem own_callIW {vm0 : Vm} {k0 : Nat} (X : Stand p l e R (s.setVm vm0) m args below meth c T locs cells slots) (hx : p.tables.exec = Jvm.exec) (hS : s.Since vm0 k0) (hk : k0 ≤ T.heap.size) (hZ : Z.Warmed39 (s.setVm vm0).vm) {own : String} {index : Nat} {y : MethodName} {bytes : ByteArray} {maxL : Nat} {rm : Room} {b : Addr} {as' : List Value} {Q : Option Value → Vm → Heap → List Loc → Prop} {G : Vm → Prop} {Qf : Outcome → State → Prop} (hy1 : y.name = "<init>")
    (hown : (s.setVm vm0).vm.findClass own = some m.cls) (w1 : (Jvm.Cond.methodLink own index y).before a0 Z = true) (w6 : (Jvm.Cond.instanceMethod y).before a0 Z = true) (w4 : (Jvm.Cond.code y bytes maxL none).before a0 Z = true) (w3 : (Jvm.Cond.initialized y.cls).before a0 Z = true)
    (hy : y.cls ≠ "java/lang/invoke/MethodHandle" ∧ y.cls ≠ "java/lang/invoke/VarHandle")
    (hM : MetFree l y (head1 [Jvm.Cond.code y bytes maxL none] rm) (fun a U => a = (.ref b :: as').toArray ∧ Z.Warmed39 U.vm ∧ U.heap = h ∧ G U.vm) (fun _ _ _ _ _ => True) (fun _ U o U' => own_QV Q U rm.cells rm.slots o U')) (hG : ∀ vm₁, (s.setVm vm0).WarmedH vm₁ → G vm₁)
    (W : Nat) (hf : rm.frames + 1 ≤ R.frames) (hl : W + (maxL + 11) + rm.locals ≤ R.locals) (hc : cells + rm.cells ≤ R.cells) (hs : slots + rm.slots ≤ R.slots)
    {pc : Nat} {Ls : Array Slot} {stk rest : List Value} (hsize : Ls.size = c.maxLocals) (hlen : ∀ sig, parseMethodDescriptor y.desc = some sig → as'.length = sig.parameters.length) (hstack : stk = as'.reverse ++ .ref b :: rest) (hW : (rest.map fun v => v.category).sum ≤ W) (hd : decode c.code pc = .ok (.invokespecial index, 3)) (eT : T.heap = h)
    (k : ∀ T' L v, Stand p l e R (s.setVm T'.vm) m args below meth c T' (locs ++ L) (cells + rm.cells) (slots + rm.slots) → s.Since T'.vm T'.heap.size → Z.Warmed39 (s.setVm T'.vm).vm → (s.setVm T'.vm).vm.findClass own = some m.cls → Q v T'.vm T'.heap L → own_Out p e below Qf (T'.setTop (mkF m (pc + 3) Ls (v.toList ++ rest)))) :
    own_Out p e below Qf (T.setTop (mkF m pc Ls stk)) := by
  obtain ⟨v, vm₁, ⟨T', L', k', n'⟩, -, X', hS', hgr, ⟨Lc, hQ, hl', hy', hz'⟩, st⟩ := X.specialBackS hx (y := y) hy1 hown (mvT hZ w1) (mvT hZ w6) (mvT hZ w4) hy (own_backV (W := W) hM hZ w4 w3 hf hl) (g := mkF m pc Ls stk) rfl hsize (Steps.refl _) (a := b) (argsL := as') (rest := rest) hlen hstack (by show 2 * 0 + _ ≤ _; omega) hd (fun vm₁ hw => ⟨rfl, eT, hG vm₁ hw, hc, hs⟩)
  dsimp only [Pt.U, Pt.locs, Pt.cells, Pt.slots] at X' hS' hgr hl' hy' hz' st hQ
  subst hl' hy' hz'
  obtain ⟨q1, q2, q3, q4⟩ := rebS hS hk X' hS' hgr hZ hown
  exact own_tr st (k _ _ _ q1 q2 q3 q4 hQ)
end OwnV
end Jvm.RoadKit
namespace Jvm.RoadKit
open Sem ClassFile Op Lib Jvm.Stand Jvm.Free Jvm.LawKit
section OwnG
variable {p : Program} {l : Launch} {e : Env} {R : Room} {s : State} {m : MethodId} {args : Array Value} {below : List Frame} {meth : Method} {c : Code} {T : State} {locs : List Loc} {cells slots : Nat} {Z : State} {a0 : Array Value} {h h' : Heap} {a b : Addr} {n : Nat} {f : Nat → Int32} {Q : Outcome → State → Prop} {ws : List Addr} {sl : Nat} {v : Value} {vm0 vm1 : Vm}
/-- a byte[] of length n with the components f (no word on its class's name) -/
def own_AW (Z : State) (h : Heap) (a : Addr) (n : Nat) (f : Nat → Int32) : Prop := ∃ c : Cell, Arr Z h a c .byte ∧ c.slots.size = n ∧ n < 2147483648 ∧ ∀ i, i < n → c.slots[i]? = some (.int (f i))
theorem own_AW_lt (F : own_AW Z h a n f) : a < h.size := by obtain ⟨c, A, -⟩ := F; exact A.lt
theorem own_AW_ext (F : own_AW Z h a n f) (E : Ext h h') : own_AW Z h' a n f := by obtain ⟨c, A, r⟩ := F; exact ⟨c, A.ext E, r⟩
theorem own_AW_keep (F : own_AW Z h a n f) (K : Keep h h' ws) (q : a ∉ ws) : own_AW Z h' a n f := by obtain ⟨c, A, r⟩ := F; exact ⟨c, ⟨K.2.1 a c A.1 q, A.2⟩, r⟩
theorem own_AW_congr {f' : Nat → Int32} (F : own_AW Z h a n f) (q : ∀ i, i < n → f i = f' i) : own_AW Z h a n f' := by obtain ⟨c, A, S, b, H⟩ := F; exact ⟨c, A, S, b, fun i hi => by rw [H i hi, q i hi]⟩
theorem own_AW_of (F : own_AB Z h a n f) : own_AW Z h a n f := by obtain ⟨c, A, S, b, H, -⟩ := F; exact ⟨c, A, S, b, H⟩
theorem own_AW_arv {k : ClassId} (F : Arv Z h a k .byte (0 : Int32) [] (.int 0)) : own_AW Z h a 0 f := by obtain ⟨c, A, -, S, -⟩ := F; exact ⟨c, A, S, by decide, fun i hi => absurd hi (Nat.not_lt_zero _)⟩
theorem own_baloadW (X : Stand p l e R s m args below meth c T locs cells slots) (hx : p.tables.exec = Jvm.exec) (hZ : Z.Warmed39 s.vm) (eT : T.heap = h) (F : own_AW Z h a n f) {j : Int32} {i : Nat} (hj : ¬ j < 0) (hji : j.toNatClampNeg = i) (hi : i < n)
    {pc : Nat} {Ls : Array Slot} {rest : List Value} (hd : decode c.code pc = .ok (.baload, 1)) (k : own_Out p e below Q (T.setTop (mkF m (pc + 1) Ls (.int (f i) :: rest)))) : own_Out p e below Q (T.setTop (mkF m pc Ls (.int j :: .ref a :: rest))) := by
  obtain ⟨cl, A, S, bn, H⟩ := F
  subst hji
  exact own_st (fun t q => X.baloadBytes hx (by rw [eT]; exact A.1) (State.isArrayOf_alike hZ.alike A.2.1) A.2.2 (by rw [S]; exact fun q => q.elim hj (Nat.not_le_of_lt hi)) (H _ hi) (g := mkF m pc Ls (.int j :: .ref a :: rest)) rfl rfl hd t q) k
theorem own_lenW (X : Stand p l e R s m args below meth c T locs cells slots) (hx : p.tables.exec = Jvm.exec) (hZ : Z.Warmed39 s.vm) (eT : T.heap = h) (F : own_AW Z h a n f) {z : Int32} (hz : n.toInt32 = z)
    {pc : Nat} {Ls : Array Slot} {rest : List Value} (hd : decode c.code pc = .ok (.arraylength, 1)) (k : own_Out p e below Q (T.setTop (mkF m (pc + 1) Ls (.int z :: rest)))) : own_Out p e below Q (T.setTop (mkF m pc Ls (.ref a :: rest))) := by
  obtain ⟨cl, A, S, bn, H⟩ := F
  exact own_st (fun t q => X.arraylength hx (by rw [eT]; exact A.1) (State.isArrayOf_alike hZ.alike A.2.1) (g := mkF m pc Ls (.ref a :: rest)) rfl rfl hd t (by rw [S, hz]; exact q)) k
/-- the facts of the constant "" of String -/
def own_E (Z : State) (vm : Vm) (h : Heap) (a b : Addr) : Prop :=
  Lit (Z.setVm vm) "java/lang/String" 7 a ∧ Exa Z h a "java/lang/String" ∧ Fld Z h a "java/lang/String" "coder" "B" (.int 0) ∧ Fld Z h a "java/lang/String" "value" "[B" (.ref b) ∧ ∃ k : ClassId, Arv Z h b k .byte (0 : Int32) [] (.int 0)
/-- the constant "": not loaded since Z (and Z's cells all there), or booked -/
def own_G (Z : State) (h : Heap) (vm : Vm) : Prop :=
  (IB Z vm [] ∧ ∀ (b : Addr) (cl : Cell), Z.heap[b]? = some cl → h[b]? = some cl) ∨ ∃ a b : Addr, own_E Z vm h a b
theorem own_E_warm (W : (s.setVm vm0).WarmedH vm1) (E : own_E Z vm0 h a b) : own_E Z vm1 h a b := ⟨Lit.stays (s := s) E.1 W.wide, E.2⟩
theorem own_E_ext (X : Ext h h') (E : own_E Z vm0 h a b) : own_E Z vm0 h' a b := by
  obtain ⟨e1, e2, e3, e4, k, e5⟩ := E
  exact ⟨e1, e2.ext X, e3.ext X, e4.ext X, k, e5.ext X⟩
theorem own_E_keep (K : Keep h h' ws) (q1 : a ∉ ws) (q2 : b ∉ ws) (E : own_E Z vm0 h a b) : own_E Z vm0 h' a b := by
  obtain ⟨e1, e2, e3, e4, k, e5⟩ := E
  exact ⟨e1, e2.keep K, e3.keep K q1, e4.keep K q1, k, e5.keep K q2⟩
theorem own_E_ne {x : Addr} (wi : (Cond.instantiable "java/lang/String" 4).before a0 Z = true) (E : own_E Z vm0 h a b) (X : Exa Z h x "java/lang/String") (F : Fld Z h x "java/lang/String" "value" "[B" .null) : a ≠ x ∧ b ≠ x := by
  obtain ⟨e1, e2, e3, e4, k, e5⟩ := E
  exact ⟨e4.ne F (by intro q; cases q), (X.neArv e5 wi).symm⟩
theorem own_G_warm (W : (s.setVm vm0).WarmedH vm1) (G : own_G Z h vm0) : own_G Z h vm1 := by
  rcases G with ⟨⟨mo, q, hm⟩, K⟩ | ⟨a, b, E⟩
  · exact Or.inl ⟨⟨mo, by rw [W.interned_eq]; exact q, hm⟩, K⟩
  · exact Or.inr ⟨a, b, own_E_warm W E⟩
theorem own_G_ext (X : Ext h h') (G : own_G Z h vm0) : own_G Z h' vm0 := by
  rcases G with ⟨I, K⟩ | ⟨a, b, E⟩
  · exact Or.inl ⟨I, fun b cl q => X.2 b cl (K b cl q)⟩
  · exact Or.inr ⟨a, b, own_E_ext X E⟩
/-- .. past writes of an object fresh since Z, whose value is still null -/
theorem own_G_keep {x : Addr} (wi : (Cond.instantiable "java/lang/String" 4).before a0 Z = true) (hx : Z.heap.size ≤ x) (X : Exa Z h x "java/lang/String") (F : Fld Z h x "java/lang/String" "value" "[B" .null) (K : Keep h h' [x]) (G : own_G Z h vm0) : own_G Z h' vm0 := by
  rcases G with ⟨I, J⟩ | ⟨a, b, E⟩
  · exact Or.inl ⟨I, fun b cl q => K.2.1 b cl (J b cl q) fun z => by cases List.mem_singleton.mp z; exact Nat.lt_irrefl _ (Nat.lt_of_lt_of_le (Array.getElem?_eq_some_iff.mp q).1 hx)⟩
  · obtain ⟨q1, q2⟩ := own_E_ne wi E X F
    exact Or.inr ⟨a, b, own_E_keep K (fun z => q1 (List.mem_singleton.mp z)) (fun z => q2 (List.mem_singleton.mp z)) E⟩
/-- the load of "" -/
theorem own_ldc7 (X : Stand p l e R s m args below meth c T [] cells slots) (hx : p.tables.exec = Jvm.exec) (hZ : Z.Warmed39 s.vm) (hown : s.vm.findClass "java/lang/String" = some m.cls) (w : (Cond.stringLink "java/lang/String" 7 "").before a0 Z = true) (wS : ∀ a ∈ Bundle.stringAtoms, a.before a0 Z = true)
    (eT : T.heap = h) (hs0 : s.heap = h) (G : own_G Z h s.vm) (hh : Jvm.Lit.constHeld Z "java/lang/String" 7) (hcw : Jvm.Lit.compactW.before a0 Z = true) {g : JFrame} (hg : g.method = m) (hd : decode c.code g.pc = .ok (.ldc 7, 2)) (hc : cells + 2 ≤ R.cells) (hl : slots + (0 + 4) ≤ R.slots) :
    ∃ (a b : Addr) (T' : State) (h' : Heap) (vm1 : Vm) (k1 : Nat), Stand p l e R (s.setVm vm1) m args below meth c T' [] (cells + 2) (slots + (0 + 4)) ∧ T'.heap = h' ∧ Ext h h' ∧ s.Since vm1 k1 ∧ k1 ≤ h'.size ∧ Z.Warmed39 (s.setVm vm1).vm ∧ (s.setVm vm1).vm.findClass "java/lang/String" = some m.cls ∧ own_E Z vm1 h' a b ∧
      ∀ target, Steps p.tables e below (T'.setTop { g with pc := g.pc + 2, stack := .ref a :: g.stack }) target → Steps p.tables e below (T.setTop g) target := by
  rcases G with ⟨I, J⟩ | ⟨a, b, E⟩
  · obtain ⟨a, T', h', k1, b, k, r1, r2, r3, r4, r5, r6, r7, r8, r9, r10, r11, -, -, -, r15, r16⟩ := ldcSVL (s := s) (vm0 := s.vm) (Z := Z) X hx hZ hown w wS eT (k0 := 0) ((State.WarmedH.refl s).since _) (Nat.zero_le _) (Fr.nil _) (by rw [hs0]; exact J) I (by simp) hh hcw (vs := []) (z := (0 : Int32)) ⟨by decide, rfl⟩ (by decide) rfl hg hd (n := 0) (by decide) (by decide) hc hl
    exact ⟨a, b, T', h', T'.vm, k1, r1, r2, r3, r4, r5, r6, r7, ⟨r15, r8, r9, r10, k, r11⟩, r16⟩
  · exact ⟨a, b, T, h, s.vm, 0, Stand.mono (s := s) X (by omega) (by omega), eT, ⟨Nat.le_refl _, fun _ _ q => q⟩, (State.WarmedH.refl s).since _, Nat.zero_le _, hZ, hown, E, ldcAgain (s := s) (vm0 := s.vm) (Z := Z) X hx hZ hown w E.1 hg hd⟩
end OwnG
end Jvm.RoadKit
namespace Jvm.Pilot.@@N@@
open Jvm Jvm.ClassFile Sem Op Lib Jvm.Free Jvm.Stand Jvm.LawKit Jvm.RoadKit Bundle Jvm.Pilot.@@N@@.Jvm.D
theorem own_w {Z : State} {a0 : Array Value} (hw : ∀ d ∈ tables_1, d.before a0 Z = true) {d : Jvm.Cond} (k : Nat) (h : tables_1[k]? = some d) : d.before a0 Z = true := hw _ (List.mem_of_getElem? h)
def own_S0 (Z : State) (h : Heap) (a : Addr) (f0 : Value) (f1 : Int32) : Prop := Exa Z h a "java/lang/String" ∧ Fld Z h a "java/lang/String" "value" "[B" f0 ∧ Fld Z h a "java/lang/String" "coder" "B" (.int f1)
theorem own_S0_value {Z : State} {a0 : Array Value} (hw : ∀ d ∈ tables_1, d.before a0 Z = true) {h h' : Heap} {a : Addr} {f0 : Value} {f1 : Int32} {y : Value} (W : Wr h h' a (Jvm.RoadKit.slotOf Z "java/lang/String" "value" "[B") y) (O : own_S0 Z h a f0 f1) : own_S0 Z h' a y f1 :=
  ⟨(O.1.wr W), ((O).2.1.same W), ((O).2.2.other W (Or.inr (slot_ne (Or.inr (own_w hw 22 rfl)) (Or.inr (own_w hw 21 rfl)) (by decide) (t := .byte) (t' := .array (.byte)) (by decide) (by decide))))⟩
theorem own_S0_coder {Z : State} {a0 : Array Value} (hw : ∀ d ∈ tables_1, d.before a0 Z = true) {h h' : Heap} {a : Addr} {f0 : Value} {f1 : Int32} {y : Int32} (W : Wr h h' a (Jvm.RoadKit.slotOf Z "java/lang/String" "coder" "B") (.int y)) (O : own_S0 Z h a f0 f1) : own_S0 Z h' a f0 y :=
  ⟨(O.1.wr W), ((O).2.1.other W (Or.inr (slot_ne (Or.inr (own_w hw 21 rfl)) (Or.inr (own_w hw 22 rfl)) (by decide) (t := .array (.byte)) (t' := .byte) (by decide) (by decide)))), ((O).2.2.same W)⟩
theorem own_S0_ext {Z : State} {h h' : Heap} {a : Addr} {f0 : Value} {f1 : Int32} (E : Ext h h') (O : own_S0 Z h a f0 f1) : own_S0 Z h' a f0 f1 := ⟨(O).1.ext E, (O).2.1.ext E, (O).2.2.ext E⟩
theorem own_S0_mon {Z : State} {h h' : Heap} {a : Addr} {f0 : Value} {f1 : Int32} (E : Mon h h') (O : own_S0 Z h a f0 f1) : own_S0 Z h' a f0 f1 := ⟨(O).1.mon E, (O).2.1.mon E, (O).2.2.mon E⟩
theorem own_S0_keep {Z : State} {h h' : Heap} {a : Addr} {ws : List Addr} {f0 : Value} {f1 : Int32} (K : Keep h h' ws) (q : a ∉ ws) (O : own_S0 Z h a f0 f1) : own_S0 Z h' a f0 f1 := ⟨(O).1.keep K, (O).2.1.keep K q, (O).2.2.keep K q⟩
theorem own_lt1 {P : Nat → Prop} (h0 : P 0) : ∀ i, i < 1 → P i := fun i hi => by
  have e : i = 0 := by omega
  subst e; exact h0
theorem own_lt2 {P : Nat → Prop} (h0 : P 0) (h1 : P 1) : ∀ i, i < 2 → P i := fun i hi => by
  have e : i = 0 ∨ i = 1 := by omega
  rcases e with rfl | rfl
  · exact h0
  · exact h1
theorem own_tI {n : Nat} (h : n ≤ 2) : (Int32.ofNat n).toInt = n := Int32.toInt_ofNat_of_lt (by omega)
theorem own_eqn {x y : Nat} (h : x ≤ 2) (q : y ≤ 2) (e : Int32.ofNat x = Int32.ofNat y) : x = y := by
  have := congrArg Int32.toInt e; rw [own_tI h, own_tI q] at this; omega
theorem own_lit {n k : Nat} (h : n ≤ 2) (hk : k ≤ 2) : Int32.ofNat k < Int32.ofNat n ↔ k < n := by rw [Int32.lt_iff_toInt_lt, own_tI h, own_tI hk]; omega
theorem own_no2 {n : Nat} (h : n ≤ 2) : ¬ (2 : Int32) < Int32.ofNat n := fun z => by have := (own_lit (k := 2) h (by decide)).mp z; omega
theorem own_ltn0 {x y : Nat} (h : x ≤ 2) (e : x = y) (z : (0 : Int32) < Int32.ofNat x) : 0 < x ∧ 0 < y := by have := (own_lit (k := 0) h (by decide)).mp z; omega
theorem own_ltn1 {x y : Nat} (h : x ≤ 2) (e : x = y) (z : (1 : Int32) < Int32.ofNat x) : 1 < x ∧ 1 < y := by have := (own_lit (k := 1) h (by decide)).mp z; omega
theorem own_up0 {P : Nat → Prop} {n : Nat} (h : n ≤ 2) (z : ¬ (0 : Int32) < Int32.ofNat n) : ∀ i, i < n → P i := fun i hi => by have := mt (own_lit (k := 0) h (by decide)).mpr z; omega
theorem own_up1 {P : Nat → Prop} {n : Nat} (h : n ≤ 2) (z : ¬ (1 : Int32) < Int32.ofNat n) (p0 : P 0) : ∀ i, i < n → P i := fun i hi => by
  have := mt (own_lit (k := 1) h (by decide)).mpr z
  exact own_lt1 p0 i (by omega)
theorem own_up2 {P : Nat → Prop} {n : Nat} (h : n ≤ 2) (z : ¬ (2 : Int32) < Int32.ofNat n) (p0 : P 0) (p1 : P 1) : ∀ i, i < n → P i := fun i hi => own_lt2 p0 p1 i (by omega)
theorem own_last7 (i : Int32) (hr : 0 ≤ i.toInt ∧ i.toInt < 8) (h0 : ¬ i = (0 : Int32)) (h1 : ¬ i = (1 : Int32)) (h2 : ¬ i = (2 : Int32)) (h3 : ¬ i = (3 : Int32)) (h4 : ¬ i = (4 : Int32)) (h5 : ¬ i = (5 : Int32)) (h6 : ¬ i = (6 : Int32)) : i = (7 : Int32) := by
  simp only [← Int32.toInt_inj, Int32.reduceToInt] at h0 h1 h2 h3 h4 h5 h6 ⊢
  omega
theorem own_narc {x : Int32} (hX : 0 ≤ x.toInt ∧ x.toInt < 256) : nar .char x = x := by
  have hc := c_i2c x
  show x.toUInt32.toUInt16.toUInt32.toInt32 = x
  simp only [← Int32.toInt_inj]
  omega
theorem own_c255 {x : Int32} (hX : 0 ≤ x.toInt ∧ x.toInt < 256) : ¬ (255 : Int32) < nar .char x := by
  rw [own_narc hX, Int32.lt_iff_toInt_lt]; simp only [Int32.reduceToInt]; omega
theorem own_sa {Z : State} {a0 : Array Value} (hw : ∀ d ∈ tables_1, d.before a0 Z = true) : ∀ a ∈ Bundle.stringAtoms, a.before a0 Z = true := by
  intro a ha
  simp only [Bundle.stringAtoms, List.mem_cons, List.not_mem_nil, or_false] at ha
  rcases ha with rfl | rfl | rfl | rfl | rfl | rfl | rfl
  · exact own_w hw 7 rfl
  · exact own_w hw 6 rfl
  · exact own_w hw 20 rfl
  · exact own_w hw 21 rfl
  · exact own_w hw 22 rfl
  · exact own_w hw 23 rfl
  · exact own_w hw 24 rfl
theorem pn_own_cm4_1 : plainFor (⟨"java/lang/StringUTF16", "compress", "([CI[BII)I"⟩ : MethodName) = true := by first | exact plainFor_of_name (by first | (simp [plainName, overriddenIn]; done) | decide +kernel) | decide +kernel
theorem down_cm4_0 : decode jdk_52_method_21_code 0 = .ok (.iconst 0, 1) := by decide +kernel
theorem down_cm4_1 : decode jdk_52_method_21_code 1 = .ok (.istore 5, 2) := by decide +kernel
theorem down_cm4_3 : decode jdk_52_method_21_code 3 = .ok (.iload 5, 2) := by decide +kernel
theorem down_cm4_5 : decode jdk_52_method_21_code 5 = .ok (.iload 4, 2) := by decide +kernel
theorem down_cm4_7 : decode jdk_52_method_21_code 7 = .ok (.if_icmp .ge 37, 3) := by decide +kernel
theorem down_cm4_10 : decode jdk_52_method_21_code 10 = .ok (.aload_n 0, 1) := by decide +kernel
theorem down_cm4_11 : decode jdk_52_method_21_code 11 = .ok (.iload_n 1, 1) := by decide +kernel
theorem down_cm4_12 : decode jdk_52_method_21_code 12 = .ok (.caload, 1) := by decide +kernel
theorem down_cm4_13 : decode jdk_52_method_21_code 13 = .ok (.istore 6, 2) := by decide +kernel
theorem down_cm4_15 : decode jdk_52_method_21_code 15 = .ok (.iload 6, 2) := by decide +kernel
theorem down_cm4_17 : decode jdk_52_method_21_code 17 = .ok (.sipush 255, 3) := by decide +kernel
theorem down_cm4_20 : decode jdk_52_method_21_code 20 = .ok (.if_icmp .le 6, 3) := by decide +kernel
theorem down_cm4_26 : decode jdk_52_method_21_code 26 = .ok (.aload_n 2, 1) := by decide +kernel
theorem down_cm4_27 : decode jdk_52_method_21_code 27 = .ok (.iload_n 3, 1) := by decide +kernel
theorem down_cm4_28 : decode jdk_52_method_21_code 28 = .ok (.iload 6, 2) := by decide +kernel
theorem down_cm4_30 : decode jdk_52_method_21_code 30 = .ok (.i2b, 1) := by decide +kernel
theorem down_cm4_31 : decode jdk_52_method_21_code 31 = .ok (.bastore, 1) := by decide +kernel
theorem down_cm4_32 : decode jdk_52_method_21_code 32 = .ok (.iinc 1 1, 3) := by decide +kernel
theorem down_cm4_35 : decode jdk_52_method_21_code 35 = .ok (.iinc 3 1, 3) := by decide +kernel
theorem down_cm4_38 : decode jdk_52_method_21_code 38 = .ok (.iinc 5 1, 3) := by decide +kernel
theorem down_cm4_41 : decode jdk_52_method_21_code 41 = .ok (.goto (-38), 3) := by decide +kernel
theorem down_cm4_44 : decode jdk_52_method_21_code 44 = .ok (.iload 4, 2) := by decide +kernel
theorem down_cm4_46 : decode jdk_52_method_21_code 46 = .ok (.ireturn, 1) := by decide +kernel
def Q_own_cm4_1 (Z : State)  (b d : Addr) (fc : Nat → Int32) (h0 : Heap) (n0 : Nat) (v : Option Value) (h : Heap) (L : List Loc) : Prop := v = some (.int (1 : Int32)) ∧ Fr n0 L ∧ Keep h0 h [d] ∧ own_AB Z h d 1 (fun i => nar .byte (fc i).toInt8.toInt32)
set_option maxRecDepth 65536 in
set_option maxHeartbeats 40000000 in
theorem own_cm4_1 (l : Launch) (Z : State) (a0 : Array Value) (hw : ∀ d ∈ tables_1, d.before a0 Z = true) (ws : List Jvm.Cond)  (b d : Addr) (fc : Nat → Int32) (h0 : Heap) (n0 : Nat) (gd : n0 ≤ d) (nbd : b ≠ d) (Fb : own_AC Z h0 b 1 fc) (Fd : own_AB Z h0 d 1 (fun _ => 0)) (hc : ∀ i, i < 1 → ¬ (255 : Int32) < fc i) :
    MetFree l (⟨"java/lang/StringUTF16", "compress", "([CI[BII)I"⟩ : MethodName) (head1 (Jvm.Cond.code (⟨"java/lang/StringUTF16", "compress", "([CI[BII)I"⟩ : MethodName) jdk_52_method_21_code 7 (some (.int)) :: ws) ({ frames := 0, cells := 0, slots := 0, locals := 0 } : Room)) (fun aa U => aa = #[(.ref b), (.int (0 : Int32)), (.ref d), (.int (0 : Int32)), (.int (1 : Int32))] ∧ Z.Warmed39 U.vm ∧ U.heap = h0) (fun _ _ _ _ _ => True) (fun _ U o U' => ∃ v L, o = .returned v ∧ Q_own_cm4_1 Z b d fc h0 n0 v U'.heap L ∧ FrameEnd U o U' L ({ frames := 0, cells := 0, slots := 0, locals := 0 } : Room).cells ({ frames := 0, cells := 0, slots := 0, locals := 0 } : Room).slots) := by
  refine own_body (x := (⟨"java/lang/StringUTF16", "compress", "([CI[BII)I"⟩ : MethodName)) (maxL := 7) (as' := #[(.ref b), (.int (0 : Int32)), (.ref d), (.int (0 : Int32)), (.int (1 : Int32))]) (Q := Q_own_cm4_1 Z b d fc h0 n0) pn_own_cm4_1 #[.val (.ref b), .val (.int (0 : Int32)), .val (.ref d), .val (.int (0 : Int32)), .val (.int (1 : Int32)), .unset, .unset] (fun m => by first | (simp [entryFrame, mkF, argsToLocals, Value.category]; done) | rfl) ?_
  intro p e s m below meth c T0 X0 hx hby hml hret hlk hown hnm hZ e0
  replace hml : c.maxLocals = 7 := hml
  replace hown : s.vm.findClass "java/lang/StringUTF16" = some m.cls := hown
  have N0 := Fr.nil n0
  have K0 := Keep.refl h0 [d]
  refine own_st (G := T0.setTop (mkF m 1 #[.val (.ref b), .val (.int (0 : Int32)), .val (.ref d), .val (.int (0 : Int32)), .val (.int (1 : Int32)), .unset, .unset] [(.int (0 : Int32))])) (fun _ kk => XT.iconstV X0.here hx rfl (0 : Int32) (hb hby down_cm4_0) (by decide) kk) ?_
  refine own_st (G := T0.setTop (mkF m 3 #[.val (.ref b), .val (.int (0 : Int32)), .val (.ref d), .val (.int (0 : Int32)), .val (.int (1 : Int32)), .val (.int (0 : Int32)), .unset] [])) (fun _ kk => XS.istore X0.here hx rfl (hb hby down_cm4_1) rfl (l' := #[.val (.ref b), .val (.int (0 : Int32)), .val (.ref d), .val (.int (0 : Int32)), .val (.int (1 : Int32)), .val (.int (0 : Int32)), .unset]) rfl kk) ?_
  refine own_st (G := T0.setTop (mkF m 5 #[.val (.ref b), .val (.int (0 : Int32)), .val (.ref d), .val (.int (0 : Int32)), .val (.int (1 : Int32)), .val (.int (0 : Int32)), .unset] [(.int (0 : Int32))])) (fun _ kk => XS.iload X0.here hx rfl (hb hby down_cm4_3) rfl kk) ?_
  refine own_st (G := T0.setTop (mkF m 7 #[.val (.ref b), .val (.int (0 : Int32)), .val (.ref d), .val (.int (0 : Int32)), .val (.int (1 : Int32)), .val (.int (0 : Int32)), .unset] [(.int (1 : Int32)), (.int (0 : Int32))])) (fun _ kk => XS.iload X0.here hx rfl (hb hby down_cm4_5) rfl kk) ?_
  refine own_st (G := T0.setTop (mkF m 10 #[.val (.ref b), .val (.int (0 : Int32)), .val (.ref d), .val (.int (0 : Int32)), .val (.int (1 : Int32)), .val (.int (0 : Int32)), .unset] [])) (fun _ kk => XS.icmpNo X0.here hx rfl (hb hby down_cm4_7) rfl (XT.ii_ge_f (by decide : (0 : Int32) < (1 : Int32))) kk) ?_
  refine own_st (G := T0.setTop (mkF m 11 #[.val (.ref b), .val (.int (0 : Int32)), .val (.ref d), .val (.int (0 : Int32)), .val (.int (1 : Int32)), .val (.int (0 : Int32)), .unset] [(.ref b)])) (fun _ kk => XS.aloadN X0.here hx rfl (hb hby down_cm4_10) rfl rfl kk) ?_
  refine own_st (G := T0.setTop (mkF m 12 #[.val (.ref b), .val (.int (0 : Int32)), .val (.ref d), .val (.int (0 : Int32)), .val (.int (1 : Int32)), .val (.int (0 : Int32)), .unset] [(.int (0 : Int32)), (.ref b)])) (fun _ kk => XS.iloadN X0.here hx rfl (hb hby down_cm4_11) rfl kk) ?_
  refine own_caload X0 hx hZ e0 Fb (j := (0 : Int32)) (i := 0) (by decide) rfl (by decide) (hb hby down_cm4_12) ?_
  show own_Out _ _ _ _ (T0.setTop (mkF m 13 #[.val (.ref b), .val (.int (0 : Int32)), .val (.ref d), .val (.int (0 : Int32)), .val (.int (1 : Int32)), .val (.int (0 : Int32)), .unset] [(.int (fc 0))]))
  refine own_st (G := T0.setTop (mkF m 15 #[.val (.ref b), .val (.int (0 : Int32)), .val (.ref d), .val (.int (0 : Int32)), .val (.int (1 : Int32)), .val (.int (0 : Int32)), .val (.int (fc 0))] [])) (fun _ kk => XS.istore X0.here hx rfl (hb hby down_cm4_13) rfl (l' := #[.val (.ref b), .val (.int (0 : Int32)), .val (.ref d), .val (.int (0 : Int32)), .val (.int (1 : Int32)), .val (.int (0 : Int32)), .val (.int (fc 0))]) rfl kk) ?_
  refine own_st (G := T0.setTop (mkF m 17 #[.val (.ref b), .val (.int (0 : Int32)), .val (.ref d), .val (.int (0 : Int32)), .val (.int (1 : Int32)), .val (.int (0 : Int32)), .val (.int (fc 0))] [(.int (fc 0))])) (fun _ kk => XS.iload X0.here hx rfl (hb hby down_cm4_15) rfl kk) ?_
  refine own_st (G := T0.setTop (mkF m 20 #[.val (.ref b), .val (.int (0 : Int32)), .val (.ref d), .val (.int (0 : Int32)), .val (.int (1 : Int32)), .val (.int (0 : Int32)), .val (.int (fc 0))] [(.int (255 : Int32)), (.int (fc 0))])) (fun _ kk => XT.sipushV X0.here hx rfl (255 : Int32) (hb hby down_cm4_17) (by decide) kk) ?_
  have hk1 : ¬ ((255 : Int32) < (fc 0)) := (hc 0 (by decide))
  refine own_st (G := T0.setTop (mkF m 26 #[.val (.ref b), .val (.int (0 : Int32)), .val (.ref d), .val (.int (0 : Int32)), .val (.int (1 : Int32)), .val (.int (0 : Int32)), .val (.int (fc 0))] [])) (fun _ kk => XS.icmpYes X0.here hx rfl (pc0 := 20) (pc' := 26) rfl (hb hby down_cm4_20) rfl (XT.ii_le_t hk1) (by decide) (by decide) kk) ?_
  refine own_st (G := T0.setTop (mkF m 27 #[.val (.ref b), .val (.int (0 : Int32)), .val (.ref d), .val (.int (0 : Int32)), .val (.int (1 : Int32)), .val (.int (0 : Int32)), .val (.int (fc 0))] [(.ref d)])) (fun _ kk => XS.aloadN X0.here hx rfl (hb hby down_cm4_26) rfl rfl kk) ?_
  refine own_st (G := T0.setTop (mkF m 28 #[.val (.ref b), .val (.int (0 : Int32)), .val (.ref d), .val (.int (0 : Int32)), .val (.int (1 : Int32)), .val (.int (0 : Int32)), .val (.int (fc 0))] [(.int (0 : Int32)), (.ref d)])) (fun _ kk => XS.iloadN X0.here hx rfl (hb hby down_cm4_27) rfl kk) ?_
  refine own_st (G := T0.setTop (mkF m 30 #[.val (.ref b), .val (.int (0 : Int32)), .val (.ref d), .val (.int (0 : Int32)), .val (.int (1 : Int32)), .val (.int (0 : Int32)), .val (.int (fc 0))] [(.int (fc 0)), (.int (0 : Int32)), (.ref d)])) (fun _ kk => XS.iload X0.here hx rfl (hb hby down_cm4_28) rfl kk) ?_
  refine own_st (G := T0.setTop (mkF m 31 #[.val (.ref b), .val (.int (0 : Int32)), .val (.ref d), .val (.int (0 : Int32)), .val (.int (1 : Int32)), .val (.int (0 : Int32)), .val (.int (fc 0))] [(.int (fc 0).toInt8.toInt32), (.int (0 : Int32)), (.ref d)])) (fun _ kk => XS.i2b X0.here hx rfl (hb hby down_cm4_30) rfl kk) ?_
  refine own_bastore X0 hx hZ e0 Fd (j := (0 : Int32)) (i := 0) (by decide) rfl (by decide) (hb hby down_cm4_31) ?_
  intro T2 h3 X4 e5 W6 F7
  show own_Out _ _ _ _ (T2.setTop (mkF m 32 #[.val (.ref b), .val (.int (0 : Int32)), .val (.ref d), .val (.int (0 : Int32)), .val (.int (1 : Int32)), .val (.int (0 : Int32)), .val (.int (fc 0))] []))
  have K8 := K0.wr W6 (Or.inl (List.mem_singleton.mpr rfl))
  have N9 := Fr.snoc X4 N0 gd
  have F10 := own_AC_other Fb W6 nbd
  refine own_st (G := T2.setTop (mkF m 35 #[.val (.ref b), .val (.int ((0 : Int32) + (1 : Int32))), .val (.ref d), .val (.int (0 : Int32)), .val (.int (1 : Int32)), .val (.int (0 : Int32)), .val (.int (fc 0))] [])) (fun _ kk => XT.iincV X4.here hx rfl (1 : Int32) (hb hby down_cm4_32) (by decide) rfl (l' := #[.val (.ref b), .val (.int ((0 : Int32) + (1 : Int32))), .val (.ref d), .val (.int (0 : Int32)), .val (.int (1 : Int32)), .val (.int (0 : Int32)), .val (.int (fc 0))]) rfl kk) ?_
  rw [show ((0 : Int32) + (1 : Int32)) = (1 : Int32) from by decide +kernel]
  refine own_st (G := T2.setTop (mkF m 38 #[.val (.ref b), .val (.int (1 : Int32)), .val (.ref d), .val (.int ((0 : Int32) + (1 : Int32))), .val (.int (1 : Int32)), .val (.int (0 : Int32)), .val (.int (fc 0))] [])) (fun _ kk => XT.iincV X4.here hx rfl (1 : Int32) (hb hby down_cm4_35) (by decide) rfl (l' := #[.val (.ref b), .val (.int (1 : Int32)), .val (.ref d), .val (.int ((0 : Int32) + (1 : Int32))), .val (.int (1 : Int32)), .val (.int (0 : Int32)), .val (.int (fc 0))]) rfl kk) ?_
  rw [show ((0 : Int32) + (1 : Int32)) = (1 : Int32) from by decide +kernel]
  refine own_st (G := T2.setTop (mkF m 41 #[.val (.ref b), .val (.int (1 : Int32)), .val (.ref d), .val (.int (1 : Int32)), .val (.int (1 : Int32)), .val (.int ((0 : Int32) + (1 : Int32))), .val (.int (fc 0))] [])) (fun _ kk => XT.iincV X4.here hx rfl (1 : Int32) (hb hby down_cm4_38) (by decide) rfl (l' := #[.val (.ref b), .val (.int (1 : Int32)), .val (.ref d), .val (.int (1 : Int32)), .val (.int (1 : Int32)), .val (.int ((0 : Int32) + (1 : Int32))), .val (.int (fc 0))]) rfl kk) ?_
  rw [show ((0 : Int32) + (1 : Int32)) = (1 : Int32) from by decide +kernel]
  refine own_st (G := T2.setTop (mkF m 3 #[.val (.ref b), .val (.int (1 : Int32)), .val (.ref d), .val (.int (1 : Int32)), .val (.int (1 : Int32)), .val (.int (1 : Int32)), .val (.int (fc 0))] [])) (fun _ kk => XS.goto X4.here hx rfl (pc0 := 41) (pc' := 3) rfl (hb hby down_cm4_41) (by decide) (by decide) kk) ?_
  refine own_st (G := T2.setTop (mkF m 5 #[.val (.ref b), .val (.int (1 : Int32)), .val (.ref d), .val (.int (1 : Int32)), .val (.int (1 : Int32)), .val (.int (1 : Int32)), .val (.int (fc 0))] [(.int (1 : Int32))])) (fun _ kk => XS.iload X4.here hx rfl (hb hby down_cm4_3) rfl kk) ?_
  refine own_st (G := T2.setTop (mkF m 7 #[.val (.ref b), .val (.int (1 : Int32)), .val (.ref d), .val (.int (1 : Int32)), .val (.int (1 : Int32)), .val (.int (1 : Int32)), .val (.int (fc 0))] [(.int (1 : Int32)), (.int (1 : Int32))])) (fun _ kk => XS.iload X4.here hx rfl (hb hby down_cm4_5) rfl kk) ?_
  refine own_st (G := T2.setTop (mkF m 44 #[.val (.ref b), .val (.int (1 : Int32)), .val (.ref d), .val (.int (1 : Int32)), .val (.int (1 : Int32)), .val (.int (1 : Int32)), .val (.int (fc 0))] [])) (fun _ kk => XS.icmpYes X4.here hx rfl (pc0 := 7) (pc' := 44) rfl (hb hby down_cm4_7) rfl (XT.ii_ge_t (by decide : ¬ (1 : Int32) < (1 : Int32))) (by decide) (by decide) kk) ?_
  refine own_st (G := T2.setTop (mkF m 46 #[.val (.ref b), .val (.int (1 : Int32)), .val (.ref d), .val (.int (1 : Int32)), .val (.int (1 : Int32)), .val (.int (1 : Int32)), .val (.int (fc 0))] [(.int (1 : Int32))])) (fun _ kk => XS.iload X4.here hx rfl (hb hby down_cm4_44) rfl kk) ?_
  refine own_retI X4 hx hret hlk (hb hby down_cm4_46) (by decide) (by decide) ?_
  rw [e5]
  exact ⟨rfl, N9, K8, own_AB_congr F7 (own_lt1 rfl)⟩
theorem pn_own_cm4_2 : plainFor (⟨"java/lang/StringUTF16", "compress", "([CI[BII)I"⟩ : MethodName) = true := by first | exact plainFor_of_name (by first | (simp [plainName, overriddenIn]; done) | decide +kernel) | decide +kernel
def Q_own_cm4_2 (Z : State)  (b d : Addr) (fc : Nat → Int32) (h0 : Heap) (n0 : Nat) (v : Option Value) (h : Heap) (L : List Loc) : Prop := v = some (.int (2 : Int32)) ∧ Fr n0 L ∧ Keep h0 h [d] ∧ own_AB Z h d 2 (fun i => nar .byte (fc i).toInt8.toInt32)
set_option maxRecDepth 65536 in
set_option maxHeartbeats 40000000 in
theorem own_cm4_2 (l : Launch) (Z : State) (a0 : Array Value) (hw : ∀ d ∈ tables_1, d.before a0 Z = true) (ws : List Jvm.Cond)  (b d : Addr) (fc : Nat → Int32) (h0 : Heap) (n0 : Nat) (gd : n0 ≤ d) (nbd : b ≠ d) (Fb : own_AC Z h0 b 2 fc) (Fd : own_AB Z h0 d 2 (fun _ => 0)) (hc : ∀ i, i < 2 → ¬ (255 : Int32) < fc i) :
    MetFree l (⟨"java/lang/StringUTF16", "compress", "([CI[BII)I"⟩ : MethodName) (head1 (Jvm.Cond.code (⟨"java/lang/StringUTF16", "compress", "([CI[BII)I"⟩ : MethodName) jdk_52_method_21_code 7 (some (.int)) :: ws) ({ frames := 0, cells := 0, slots := 0, locals := 0 } : Room)) (fun aa U => aa = #[(.ref b), (.int (0 : Int32)), (.ref d), (.int (0 : Int32)), (.int (2 : Int32))] ∧ Z.Warmed39 U.vm ∧ U.heap = h0) (fun _ _ _ _ _ => True) (fun _ U o U' => ∃ v L, o = .returned v ∧ Q_own_cm4_2 Z b d fc h0 n0 v U'.heap L ∧ FrameEnd U o U' L ({ frames := 0, cells := 0, slots := 0, locals := 0 } : Room).cells ({ frames := 0, cells := 0, slots := 0, locals := 0 } : Room).slots) := by
  refine own_body (x := (⟨"java/lang/StringUTF16", "compress", "([CI[BII)I"⟩ : MethodName)) (maxL := 7) (as' := #[(.ref b), (.int (0 : Int32)), (.ref d), (.int (0 : Int32)), (.int (2 : Int32))]) (Q := Q_own_cm4_2 Z b d fc h0 n0) pn_own_cm4_2 #[.val (.ref b), .val (.int (0 : Int32)), .val (.ref d), .val (.int (0 : Int32)), .val (.int (2 : Int32)), .unset, .unset] (fun m => by first | (simp [entryFrame, mkF, argsToLocals, Value.category]; done) | rfl) ?_
  intro p e s m below meth c T0 X0 hx hby hml hret hlk hown hnm hZ e0
  replace hml : c.maxLocals = 7 := hml
  replace hown : s.vm.findClass "java/lang/StringUTF16" = some m.cls := hown
  have N0 := Fr.nil n0
  have K0 := Keep.refl h0 [d]
  refine own_st (G := T0.setTop (mkF m 1 #[.val (.ref b), .val (.int (0 : Int32)), .val (.ref d), .val (.int (0 : Int32)), .val (.int (2 : Int32)), .unset, .unset] [(.int (0 : Int32))])) (fun _ kk => XT.iconstV X0.here hx rfl (0 : Int32) (hb hby down_cm4_0) (by decide) kk) ?_
  refine own_st (G := T0.setTop (mkF m 3 #[.val (.ref b), .val (.int (0 : Int32)), .val (.ref d), .val (.int (0 : Int32)), .val (.int (2 : Int32)), .val (.int (0 : Int32)), .unset] [])) (fun _ kk => XS.istore X0.here hx rfl (hb hby down_cm4_1) rfl (l' := #[.val (.ref b), .val (.int (0 : Int32)), .val (.ref d), .val (.int (0 : Int32)), .val (.int (2 : Int32)), .val (.int (0 : Int32)), .unset]) rfl kk) ?_
  refine own_st (G := T0.setTop (mkF m 5 #[.val (.ref b), .val (.int (0 : Int32)), .val (.ref d), .val (.int (0 : Int32)), .val (.int (2 : Int32)), .val (.int (0 : Int32)), .unset] [(.int (0 : Int32))])) (fun _ kk => XS.iload X0.here hx rfl (hb hby down_cm4_3) rfl kk) ?_
  refine own_st (G := T0.setTop (mkF m 7 #[.val (.ref b), .val (.int (0 : Int32)), .val (.ref d), .val (.int (0 : Int32)), .val (.int (2 : Int32)), .val (.int (0 : Int32)), .unset] [(.int (2 : Int32)), (.int (0 : Int32))])) (fun _ kk => XS.iload X0.here hx rfl (hb hby down_cm4_5) rfl kk) ?_
  refine own_st (G := T0.setTop (mkF m 10 #[.val (.ref b), .val (.int (0 : Int32)), .val (.ref d), .val (.int (0 : Int32)), .val (.int (2 : Int32)), .val (.int (0 : Int32)), .unset] [])) (fun _ kk => XS.icmpNo X0.here hx rfl (hb hby down_cm4_7) rfl (XT.ii_ge_f (by decide : (0 : Int32) < (2 : Int32))) kk) ?_
  refine own_st (G := T0.setTop (mkF m 11 #[.val (.ref b), .val (.int (0 : Int32)), .val (.ref d), .val (.int (0 : Int32)), .val (.int (2 : Int32)), .val (.int (0 : Int32)), .unset] [(.ref b)])) (fun _ kk => XS.aloadN X0.here hx rfl (hb hby down_cm4_10) rfl rfl kk) ?_
  refine own_st (G := T0.setTop (mkF m 12 #[.val (.ref b), .val (.int (0 : Int32)), .val (.ref d), .val (.int (0 : Int32)), .val (.int (2 : Int32)), .val (.int (0 : Int32)), .unset] [(.int (0 : Int32)), (.ref b)])) (fun _ kk => XS.iloadN X0.here hx rfl (hb hby down_cm4_11) rfl kk) ?_
  refine own_caload X0 hx hZ e0 Fb (j := (0 : Int32)) (i := 0) (by decide) rfl (by decide) (hb hby down_cm4_12) ?_
  show own_Out _ _ _ _ (T0.setTop (mkF m 13 #[.val (.ref b), .val (.int (0 : Int32)), .val (.ref d), .val (.int (0 : Int32)), .val (.int (2 : Int32)), .val (.int (0 : Int32)), .unset] [(.int (fc 0))]))
  refine own_st (G := T0.setTop (mkF m 15 #[.val (.ref b), .val (.int (0 : Int32)), .val (.ref d), .val (.int (0 : Int32)), .val (.int (2 : Int32)), .val (.int (0 : Int32)), .val (.int (fc 0))] [])) (fun _ kk => XS.istore X0.here hx rfl (hb hby down_cm4_13) rfl (l' := #[.val (.ref b), .val (.int (0 : Int32)), .val (.ref d), .val (.int (0 : Int32)), .val (.int (2 : Int32)), .val (.int (0 : Int32)), .val (.int (fc 0))]) rfl kk) ?_
  refine own_st (G := T0.setTop (mkF m 17 #[.val (.ref b), .val (.int (0 : Int32)), .val (.ref d), .val (.int (0 : Int32)), .val (.int (2 : Int32)), .val (.int (0 : Int32)), .val (.int (fc 0))] [(.int (fc 0))])) (fun _ kk => XS.iload X0.here hx rfl (hb hby down_cm4_15) rfl kk) ?_
  refine own_st (G := T0.setTop (mkF m 20 #[.val (.ref b), .val (.int (0 : Int32)), .val (.ref d), .val (.int (0 : Int32)), .val (.int (2 : Int32)), .val (.int (0 : Int32)), .val (.int (fc 0))] [(.int (255 : Int32)), (.int (fc 0))])) (fun _ kk => XT.sipushV X0.here hx rfl (255 : Int32) (hb hby down_cm4_17) (by decide) kk) ?_
  have hk1 : ¬ ((255 : Int32) < (fc 0)) := (hc 0 (by decide))
  refine own_st (G := T0.setTop (mkF m 26 #[.val (.ref b), .val (.int (0 : Int32)), .val (.ref d), .val (.int (0 : Int32)), .val (.int (2 : Int32)), .val (.int (0 : Int32)), .val (.int (fc 0))] [])) (fun _ kk => XS.icmpYes X0.here hx rfl (pc0 := 20) (pc' := 26) rfl (hb hby down_cm4_20) rfl (XT.ii_le_t hk1) (by decide) (by decide) kk) ?_
  refine own_st (G := T0.setTop (mkF m 27 #[.val (.ref b), .val (.int (0 : Int32)), .val (.ref d), .val (.int (0 : Int32)), .val (.int (2 : Int32)), .val (.int (0 : Int32)), .val (.int (fc 0))] [(.ref d)])) (fun _ kk => XS.aloadN X0.here hx rfl (hb hby down_cm4_26) rfl rfl kk) ?_
  refine own_st (G := T0.setTop (mkF m 28 #[.val (.ref b), .val (.int (0 : Int32)), .val (.ref d), .val (.int (0 : Int32)), .val (.int (2 : Int32)), .val (.int (0 : Int32)), .val (.int (fc 0))] [(.int (0 : Int32)), (.ref d)])) (fun _ kk => XS.iloadN X0.here hx rfl (hb hby down_cm4_27) rfl kk) ?_
  refine own_st (G := T0.setTop (mkF m 30 #[.val (.ref b), .val (.int (0 : Int32)), .val (.ref d), .val (.int (0 : Int32)), .val (.int (2 : Int32)), .val (.int (0 : Int32)), .val (.int (fc 0))] [(.int (fc 0)), (.int (0 : Int32)), (.ref d)])) (fun _ kk => XS.iload X0.here hx rfl (hb hby down_cm4_28) rfl kk) ?_
  refine own_st (G := T0.setTop (mkF m 31 #[.val (.ref b), .val (.int (0 : Int32)), .val (.ref d), .val (.int (0 : Int32)), .val (.int (2 : Int32)), .val (.int (0 : Int32)), .val (.int (fc 0))] [(.int (fc 0).toInt8.toInt32), (.int (0 : Int32)), (.ref d)])) (fun _ kk => XS.i2b X0.here hx rfl (hb hby down_cm4_30) rfl kk) ?_
  refine own_bastore X0 hx hZ e0 Fd (j := (0 : Int32)) (i := 0) (by decide) rfl (by decide) (hb hby down_cm4_31) ?_
  intro T2 h3 X4 e5 W6 F7
  show own_Out _ _ _ _ (T2.setTop (mkF m 32 #[.val (.ref b), .val (.int (0 : Int32)), .val (.ref d), .val (.int (0 : Int32)), .val (.int (2 : Int32)), .val (.int (0 : Int32)), .val (.int (fc 0))] []))
  have K8 := K0.wr W6 (Or.inl (List.mem_singleton.mpr rfl))
  have N9 := Fr.snoc X4 N0 gd
  have F10 := own_AC_other Fb W6 nbd
  refine own_st (G := T2.setTop (mkF m 35 #[.val (.ref b), .val (.int ((0 : Int32) + (1 : Int32))), .val (.ref d), .val (.int (0 : Int32)), .val (.int (2 : Int32)), .val (.int (0 : Int32)), .val (.int (fc 0))] [])) (fun _ kk => XT.iincV X4.here hx rfl (1 : Int32) (hb hby down_cm4_32) (by decide) rfl (l' := #[.val (.ref b), .val (.int ((0 : Int32) + (1 : Int32))), .val (.ref d), .val (.int (0 : Int32)), .val (.int (2 : Int32)), .val (.int (0 : Int32)), .val (.int (fc 0))]) rfl kk) ?_
  rw [show ((0 : Int32) + (1 : Int32)) = (1 : Int32) from by decide +kernel]
  refine own_st (G := T2.setTop (mkF m 38 #[.val (.ref b), .val (.int (1 : Int32)), .val (.ref d), .val (.int ((0 : Int32) + (1 : Int32))), .val (.int (2 : Int32)), .val (.int (0 : Int32)), .val (.int (fc 0))] [])) (fun _ kk => XT.iincV X4.here hx rfl (1 : Int32) (hb hby down_cm4_35) (by decide) rfl (l' := #[.val (.ref b), .val (.int (1 : Int32)), .val (.ref d), .val (.int ((0 : Int32) + (1 : Int32))), .val (.int (2 : Int32)), .val (.int (0 : Int32)), .val (.int (fc 0))]) rfl kk) ?_
  rw [show ((0 : Int32) + (1 : Int32)) = (1 : Int32) from by decide +kernel]
  refine own_st (G := T2.setTop (mkF m 41 #[.val (.ref b), .val (.int (1 : Int32)), .val (.ref d), .val (.int (1 : Int32)), .val (.int (2 : Int32)), .val (.int ((0 : Int32) + (1 : Int32))), .val (.int (fc 0))] [])) (fun _ kk => XT.iincV X4.here hx rfl (1 : Int32) (hb hby down_cm4_38) (by decide) rfl (l' := #[.val (.ref b), .val (.int (1 : Int32)), .val (.ref d), .val (.int (1 : Int32)), .val (.int (2 : Int32)), .val (.int ((0 : Int32) + (1 : Int32))), .val (.int (fc 0))]) rfl kk) ?_
  rw [show ((0 : Int32) + (1 : Int32)) = (1 : Int32) from by decide +kernel]
  refine own_st (G := T2.setTop (mkF m 3 #[.val (.ref b), .val (.int (1 : Int32)), .val (.ref d), .val (.int (1 : Int32)), .val (.int (2 : Int32)), .val (.int (1 : Int32)), .val (.int (fc 0))] [])) (fun _ kk => XS.goto X4.here hx rfl (pc0 := 41) (pc' := 3) rfl (hb hby down_cm4_41) (by decide) (by decide) kk) ?_
  refine own_st (G := T2.setTop (mkF m 5 #[.val (.ref b), .val (.int (1 : Int32)), .val (.ref d), .val (.int (1 : Int32)), .val (.int (2 : Int32)), .val (.int (1 : Int32)), .val (.int (fc 0))] [(.int (1 : Int32))])) (fun _ kk => XS.iload X4.here hx rfl (hb hby down_cm4_3) rfl kk) ?_
  refine own_st (G := T2.setTop (mkF m 7 #[.val (.ref b), .val (.int (1 : Int32)), .val (.ref d), .val (.int (1 : Int32)), .val (.int (2 : Int32)), .val (.int (1 : Int32)), .val (.int (fc 0))] [(.int (2 : Int32)), (.int (1 : Int32))])) (fun _ kk => XS.iload X4.here hx rfl (hb hby down_cm4_5) rfl kk) ?_
  refine own_st (G := T2.setTop (mkF m 10 #[.val (.ref b), .val (.int (1 : Int32)), .val (.ref d), .val (.int (1 : Int32)), .val (.int (2 : Int32)), .val (.int (1 : Int32)), .val (.int (fc 0))] [])) (fun _ kk => XS.icmpNo X4.here hx rfl (hb hby down_cm4_7) rfl (XT.ii_ge_f (by decide : (1 : Int32) < (2 : Int32))) kk) ?_
  refine own_st (G := T2.setTop (mkF m 11 #[.val (.ref b), .val (.int (1 : Int32)), .val (.ref d), .val (.int (1 : Int32)), .val (.int (2 : Int32)), .val (.int (1 : Int32)), .val (.int (fc 0))] [(.ref b)])) (fun _ kk => XS.aloadN X4.here hx rfl (hb hby down_cm4_10) rfl rfl kk) ?_
  refine own_st (G := T2.setTop (mkF m 12 #[.val (.ref b), .val (.int (1 : Int32)), .val (.ref d), .val (.int (1 : Int32)), .val (.int (2 : Int32)), .val (.int (1 : Int32)), .val (.int (fc 0))] [(.int (1 : Int32)), (.ref b)])) (fun _ kk => XS.iloadN X4.here hx rfl (hb hby down_cm4_11) rfl kk) ?_
  refine own_caload X4 hx hZ e5 F10 (j := (1 : Int32)) (i := 1) (by decide) rfl (by decide) (hb hby down_cm4_12) ?_
  show own_Out _ _ _ _ (T2.setTop (mkF m 13 #[.val (.ref b), .val (.int (1 : Int32)), .val (.ref d), .val (.int (1 : Int32)), .val (.int (2 : Int32)), .val (.int (1 : Int32)), .val (.int (fc 0))] [(.int (fc 1))]))
  refine own_st (G := T2.setTop (mkF m 15 #[.val (.ref b), .val (.int (1 : Int32)), .val (.ref d), .val (.int (1 : Int32)), .val (.int (2 : Int32)), .val (.int (1 : Int32)), .val (.int (fc 1))] [])) (fun _ kk => XS.istore X4.here hx rfl (hb hby down_cm4_13) rfl (l' := #[.val (.ref b), .val (.int (1 : Int32)), .val (.ref d), .val (.int (1 : Int32)), .val (.int (2 : Int32)), .val (.int (1 : Int32)), .val (.int (fc 1))]) rfl kk) ?_
  refine own_st (G := T2.setTop (mkF m 17 #[.val (.ref b), .val (.int (1 : Int32)), .val (.ref d), .val (.int (1 : Int32)), .val (.int (2 : Int32)), .val (.int (1 : Int32)), .val (.int (fc 1))] [(.int (fc 1))])) (fun _ kk => XS.iload X4.here hx rfl (hb hby down_cm4_15) rfl kk) ?_
  refine own_st (G := T2.setTop (mkF m 20 #[.val (.ref b), .val (.int (1 : Int32)), .val (.ref d), .val (.int (1 : Int32)), .val (.int (2 : Int32)), .val (.int (1 : Int32)), .val (.int (fc 1))] [(.int (255 : Int32)), (.int (fc 1))])) (fun _ kk => XT.sipushV X4.here hx rfl (255 : Int32) (hb hby down_cm4_17) (by decide) kk) ?_
  have hk11 : ¬ ((255 : Int32) < (fc 1)) := (hc 1 (by decide))
  refine own_st (G := T2.setTop (mkF m 26 #[.val (.ref b), .val (.int (1 : Int32)), .val (.ref d), .val (.int (1 : Int32)), .val (.int (2 : Int32)), .val (.int (1 : Int32)), .val (.int (fc 1))] [])) (fun _ kk => XS.icmpYes X4.here hx rfl (pc0 := 20) (pc' := 26) rfl (hb hby down_cm4_20) rfl (XT.ii_le_t hk11) (by decide) (by decide) kk) ?_
  refine own_st (G := T2.setTop (mkF m 27 #[.val (.ref b), .val (.int (1 : Int32)), .val (.ref d), .val (.int (1 : Int32)), .val (.int (2 : Int32)), .val (.int (1 : Int32)), .val (.int (fc 1))] [(.ref d)])) (fun _ kk => XS.aloadN X4.here hx rfl (hb hby down_cm4_26) rfl rfl kk) ?_
  refine own_st (G := T2.setTop (mkF m 28 #[.val (.ref b), .val (.int (1 : Int32)), .val (.ref d), .val (.int (1 : Int32)), .val (.int (2 : Int32)), .val (.int (1 : Int32)), .val (.int (fc 1))] [(.int (1 : Int32)), (.ref d)])) (fun _ kk => XS.iloadN X4.here hx rfl (hb hby down_cm4_27) rfl kk) ?_
  refine own_st (G := T2.setTop (mkF m 30 #[.val (.ref b), .val (.int (1 : Int32)), .val (.ref d), .val (.int (1 : Int32)), .val (.int (2 : Int32)), .val (.int (1 : Int32)), .val (.int (fc 1))] [(.int (fc 1)), (.int (1 : Int32)), (.ref d)])) (fun _ kk => XS.iload X4.here hx rfl (hb hby down_cm4_28) rfl kk) ?_
  refine own_st (G := T2.setTop (mkF m 31 #[.val (.ref b), .val (.int (1 : Int32)), .val (.ref d), .val (.int (1 : Int32)), .val (.int (2 : Int32)), .val (.int (1 : Int32)), .val (.int (fc 1))] [(.int (fc 1).toInt8.toInt32), (.int (1 : Int32)), (.ref d)])) (fun _ kk => XS.i2b X4.here hx rfl (hb hby down_cm4_30) rfl kk) ?_
  refine own_bastore X4 hx hZ e5 F7 (j := (1 : Int32)) (i := 1) (by decide) rfl (by decide) (hb hby down_cm4_31) ?_
  intro T12 h13 X14 e15 W16 F17
  show own_Out _ _ _ _ (T12.setTop (mkF m 32 #[.val (.ref b), .val (.int (1 : Int32)), .val (.ref d), .val (.int (1 : Int32)), .val (.int (2 : Int32)), .val (.int (1 : Int32)), .val (.int (fc 1))] []))
  have K18 := K8.wr W16 (Or.inl (List.mem_singleton.mpr rfl))
  have N19 := Fr.snoc X14 N9 gd
  have F20 := own_AC_other F10 W16 nbd
  refine own_st (G := T12.setTop (mkF m 35 #[.val (.ref b), .val (.int ((1 : Int32) + (1 : Int32))), .val (.ref d), .val (.int (1 : Int32)), .val (.int (2 : Int32)), .val (.int (1 : Int32)), .val (.int (fc 1))] [])) (fun _ kk => XT.iincV X14.here hx rfl (1 : Int32) (hb hby down_cm4_32) (by decide) rfl (l' := #[.val (.ref b), .val (.int ((1 : Int32) + (1 : Int32))), .val (.ref d), .val (.int (1 : Int32)), .val (.int (2 : Int32)), .val (.int (1 : Int32)), .val (.int (fc 1))]) rfl kk) ?_
  rw [show ((1 : Int32) + (1 : Int32)) = (2 : Int32) from by decide +kernel]
  refine own_st (G := T12.setTop (mkF m 38 #[.val (.ref b), .val (.int (2 : Int32)), .val (.ref d), .val (.int ((1 : Int32) + (1 : Int32))), .val (.int (2 : Int32)), .val (.int (1 : Int32)), .val (.int (fc 1))] [])) (fun _ kk => XT.iincV X14.here hx rfl (1 : Int32) (hb hby down_cm4_35) (by decide) rfl (l' := #[.val (.ref b), .val (.int (2 : Int32)), .val (.ref d), .val (.int ((1 : Int32) + (1 : Int32))), .val (.int (2 : Int32)), .val (.int (1 : Int32)), .val (.int (fc 1))]) rfl kk) ?_
  rw [show ((1 : Int32) + (1 : Int32)) = (2 : Int32) from by decide +kernel]
  refine own_st (G := T12.setTop (mkF m 41 #[.val (.ref b), .val (.int (2 : Int32)), .val (.ref d), .val (.int (2 : Int32)), .val (.int (2 : Int32)), .val (.int ((1 : Int32) + (1 : Int32))), .val (.int (fc 1))] [])) (fun _ kk => XT.iincV X14.here hx rfl (1 : Int32) (hb hby down_cm4_38) (by decide) rfl (l' := #[.val (.ref b), .val (.int (2 : Int32)), .val (.ref d), .val (.int (2 : Int32)), .val (.int (2 : Int32)), .val (.int ((1 : Int32) + (1 : Int32))), .val (.int (fc 1))]) rfl kk) ?_
  rw [show ((1 : Int32) + (1 : Int32)) = (2 : Int32) from by decide +kernel]
  refine own_st (G := T12.setTop (mkF m 3 #[.val (.ref b), .val (.int (2 : Int32)), .val (.ref d), .val (.int (2 : Int32)), .val (.int (2 : Int32)), .val (.int (2 : Int32)), .val (.int (fc 1))] [])) (fun _ kk => XS.goto X14.here hx rfl (pc0 := 41) (pc' := 3) rfl (hb hby down_cm4_41) (by decide) (by decide) kk) ?_
  refine own_st (G := T12.setTop (mkF m 5 #[.val (.ref b), .val (.int (2 : Int32)), .val (.ref d), .val (.int (2 : Int32)), .val (.int (2 : Int32)), .val (.int (2 : Int32)), .val (.int (fc 1))] [(.int (2 : Int32))])) (fun _ kk => XS.iload X14.here hx rfl (hb hby down_cm4_3) rfl kk) ?_
  refine own_st (G := T12.setTop (mkF m 7 #[.val (.ref b), .val (.int (2 : Int32)), .val (.ref d), .val (.int (2 : Int32)), .val (.int (2 : Int32)), .val (.int (2 : Int32)), .val (.int (fc 1))] [(.int (2 : Int32)), (.int (2 : Int32))])) (fun _ kk => XS.iload X14.here hx rfl (hb hby down_cm4_5) rfl kk) ?_
  refine own_st (G := T12.setTop (mkF m 44 #[.val (.ref b), .val (.int (2 : Int32)), .val (.ref d), .val (.int (2 : Int32)), .val (.int (2 : Int32)), .val (.int (2 : Int32)), .val (.int (fc 1))] [])) (fun _ kk => XS.icmpYes X14.here hx rfl (pc0 := 7) (pc' := 44) rfl (hb hby down_cm4_7) rfl (XT.ii_ge_t (by decide : ¬ (2 : Int32) < (2 : Int32))) (by decide) (by decide) kk) ?_
  refine own_st (G := T12.setTop (mkF m 46 #[.val (.ref b), .val (.int (2 : Int32)), .val (.ref d), .val (.int (2 : Int32)), .val (.int (2 : Int32)), .val (.int (2 : Int32)), .val (.int (fc 1))] [(.int (2 : Int32))])) (fun _ kk => XS.iload X14.here hx rfl (hb hby down_cm4_44) rfl kk) ?_
  refine own_retI X14 hx hret hlk (hb hby down_cm4_46) (by decide) (by decide) ?_
  rw [e15]
  exact ⟨rfl, N19, K18, own_AB_congr F17 (own_lt2 rfl rfl)⟩
theorem pn_own_cm3_1 : plainFor (⟨"java/lang/StringUTF16", "compress", "([CII)[B"⟩ : MethodName) = true := by first | exact plainFor_of_name (by first | (simp [plainName, overriddenIn]; done) | decide +kernel) | decide +kernel
theorem down_cm3_0 : decode jdk_52_method_16_code 0 = .ok (.iload_n 2, 1) := by decide +kernel
theorem down_cm3_1 : decode jdk_52_method_16_code 1 = .ok (.newarray .byte, 2) := by decide +kernel
theorem down_cm3_3 : decode jdk_52_method_16_code 3 = .ok (.astore_n 3, 1) := by decide +kernel
theorem down_cm3_4 : decode jdk_52_method_16_code 4 = .ok (.aload_n 0, 1) := by decide +kernel
theorem down_cm3_5 : decode jdk_52_method_16_code 5 = .ok (.iload_n 1, 1) := by decide +kernel
theorem down_cm3_6 : decode jdk_52_method_16_code 6 = .ok (.aload_n 3, 1) := by decide +kernel
theorem down_cm3_7 : decode jdk_52_method_16_code 7 = .ok (.iconst 0, 1) := by decide +kernel
theorem down_cm3_8 : decode jdk_52_method_16_code 8 = .ok (.iload_n 2, 1) := by decide +kernel
theorem down_cm3_9 : decode jdk_52_method_16_code 9 = .ok (.invokestatic 115, 3) := by decide +kernel
theorem down_cm3_12 : decode jdk_52_method_16_code 12 = .ok (.istore 4, 2) := by decide +kernel
theorem down_cm3_14 : decode jdk_52_method_16_code 14 = .ok (.iload 4, 2) := by decide +kernel
theorem down_cm3_16 : decode jdk_52_method_16_code 16 = .ok (.iload_n 2, 1) := by decide +kernel
theorem down_cm3_17 : decode jdk_52_method_16_code 17 = .ok (.if_icmp .eq 40, 3) := by decide +kernel
theorem down_cm3_57 : decode jdk_52_method_16_code 57 = .ok (.aload_n 3, 1) := by decide +kernel
theorem down_cm3_58 : decode jdk_52_method_16_code 58 = .ok (.areturn, 1) := by decide +kernel
def Q_own_cm3_1 (Z : State)  (b : Addr) (fc : Nat → Int32) (h0 : Heap) (n0 : Nat) (v : Option Value) (h : Heap) (L : List Loc) : Prop := ∃ o : Nat, v = some (.ref o) ∧ Fr n0 L ∧ Ext h0 h ∧ h0.size ≤ o ∧ own_AB Z h o 1 (fun i => nar .byte (fc i).toInt8.toInt32)
set_option maxRecDepth 65536 in
set_option maxHeartbeats 40000000 in
theorem own_cm3_1 (l : Launch) (Z : State) (a0 : Array Value) (hw : ∀ d ∈ tables_1, d.before a0 Z = true) (ws : List Jvm.Cond)  (b : Addr) (fc : Nat → Int32) (h0 : Heap) (n0 : Nat) (g0 : n0 ≤ h0.size) (Fb : own_AC Z h0 b 1 fc) (hc : ∀ i, i < 1 → ¬ (255 : Int32) < fc i) :
    MetFree l (⟨"java/lang/StringUTF16", "compress", "([CII)[B"⟩ : MethodName) (head1 (Jvm.Cond.code (⟨"java/lang/StringUTF16", "compress", "([CII)[B"⟩ : MethodName) jdk_52_method_16_code 6 (some (.array (.byte))) :: ws) ({ frames := 1, cells := 1, slots := 1, locals := 18 } : Room)) (fun aa U => aa = #[(.ref b), (.int (0 : Int32)), (.int (1 : Int32))] ∧ Z.Warmed39 U.vm ∧ U.heap = h0) (fun _ _ _ _ _ => True) (fun _ U o U' => ∃ v L, o = .returned v ∧ Q_own_cm3_1 Z b fc h0 n0 v U'.heap L ∧ FrameEnd U o U' L ({ frames := 1, cells := 1, slots := 1, locals := 18 } : Room).cells ({ frames := 1, cells := 1, slots := 1, locals := 18 } : Room).slots) := by
  refine own_body (x := (⟨"java/lang/StringUTF16", "compress", "([CII)[B"⟩ : MethodName)) (maxL := 6) (as' := #[(.ref b), (.int (0 : Int32)), (.int (1 : Int32))]) (Q := Q_own_cm3_1 Z b fc h0 n0) pn_own_cm3_1 #[.val (.ref b), .val (.int (0 : Int32)), .val (.int (1 : Int32)), .unset, .unset, .unset] (fun m => by first | (simp [entryFrame, mkF, argsToLocals, Value.category]; done) | rfl) ?_
  intro p e s m below meth c T0 X0 hx hby hml hret hlk hown hnm hZ e0
  replace hml : c.maxLocals = 6 := hml
  replace hown : s.vm.findClass "java/lang/StringUTF16" = some m.cls := hown
  have N0 := Fr.nil n0
  refine own_st (G := T0.setTop (mkF m 1 #[.val (.ref b), .val (.int (0 : Int32)), .val (.int (1 : Int32)), .unset, .unset, .unset] [(.int (1 : Int32))])) (fun _ kk => XS.iloadN X0.here hx rfl (hb hby down_cm3_0) rfl kk) ?_
  obtain ⟨T1, h2, cA3, X4, e5, E6, A7, EX12, st8⟩ := newPE X0 hx hZ (own_w hw 20 rfl) e0 (g := (mkF m 1 #[.val (.ref b), .val (.int (0 : Int32)), .val (.int (1 : Int32)), .unset, .unset, .unset] [(.int (1 : Int32))])) rfl (hb hby down_cm3_1) rfl (by decide) (cap := 1) (by decide) (by decide) (by decide) (by decide) (ad := "[B") rfl
  obtain ⟨a9, g10⟩ : ∃ z, z = h0.size := ⟨_, rfl⟩
  rw [← g10] at A7 st8 EX12
  refine own_st st8 ?_
  show own_Out _ _ _ _ (T1.setTop (mkF m 3 #[.val (.ref b), .val (.int (0 : Int32)), .val (.int (1 : Int32)), .unset, .unset, .unset] [(.ref a9)]))
  have go : h0.size ≤ a9 := Nat.le_of_eq g10.symm
  have go0 : n0 ≤ a9 := Nat.le_trans g0 go
  have nbo : b ≠ a9 := Nat.ne_of_lt (Nat.lt_of_lt_of_le (own_AC_lt Fb) go)
  have F13 := own_AB_new (n := 1) A7 EX12 (by decide) rfl
  have F14 := own_AC_ext Fb E6
  refine own_st (G := T1.setTop (mkF m 4 #[.val (.ref b), .val (.int (0 : Int32)), .val (.int (1 : Int32)), .val (.ref a9), .unset, .unset] [])) (fun _ kk => XS.astoreN X4.here hx rfl (hb hby down_cm3_3) rfl rfl (l' := #[.val (.ref b), .val (.int (0 : Int32)), .val (.int (1 : Int32)), .val (.ref a9), .unset, .unset]) rfl kk) ?_
  refine own_st (G := T1.setTop (mkF m 5 #[.val (.ref b), .val (.int (0 : Int32)), .val (.int (1 : Int32)), .val (.ref a9), .unset, .unset] [(.ref b)])) (fun _ kk => XS.aloadN X4.here hx rfl (hb hby down_cm3_4) rfl rfl kk) ?_
  refine own_st (G := T1.setTop (mkF m 6 #[.val (.ref b), .val (.int (0 : Int32)), .val (.int (1 : Int32)), .val (.ref a9), .unset, .unset] [(.int (0 : Int32)), (.ref b)])) (fun _ kk => XS.iloadN X4.here hx rfl (hb hby down_cm3_5) rfl kk) ?_
  refine own_st (G := T1.setTop (mkF m 7 #[.val (.ref b), .val (.int (0 : Int32)), .val (.int (1 : Int32)), .val (.ref a9), .unset, .unset] [(.ref a9), (.int (0 : Int32)), (.ref b)])) (fun _ kk => XS.aloadN X4.here hx rfl (hb hby down_cm3_6) rfl rfl kk) ?_
  refine own_st (G := T1.setTop (mkF m 8 #[.val (.ref b), .val (.int (0 : Int32)), .val (.int (1 : Int32)), .val (.ref a9), .unset, .unset] [(.int (0 : Int32)), (.ref a9), (.int (0 : Int32)), (.ref b)])) (fun _ kk => XT.iconstV X4.here hx rfl (0 : Int32) (hb hby down_cm3_7) (by decide) kk) ?_
  refine own_st (G := T1.setTop (mkF m 9 #[.val (.ref b), .val (.int (0 : Int32)), .val (.int (1 : Int32)), .val (.ref a9), .unset, .unset] [(.int (1 : Int32)), (.int (0 : Int32)), (.ref a9), (.int (0 : Int32)), (.ref b)])) (fun _ kk => XS.iloadN X4.here hx rfl (hb hby down_cm3_8) rfl kk) ?_
  refine own_callS X4 hx hZ (y := (⟨"java/lang/StringUTF16", "compress", "([CI[BII)I"⟩ : MethodName)) (as' := [(.ref b), (.int (0 : Int32)), (.ref a9), (.int (0 : Int32)), (.int (1 : Int32))]) hown (own_w hw 73 rfl) (own_w hw 74 rfl) (own_w hw 71 rfl) (own_w hw 75 rfl) (by decide) (own_cm4_1 l Z a0 hw [] b a9 fc h2 n0 go0 nbo F14 F13 hc) 0 (by decide) (by decide) (by decide) (by decide) (rest := []) (by rw [hml]; rfl) (lenOf (by decide : parseMethodDescriptor "([CI[BII)I" = some ⟨[.array (.char), .int, .array (.byte), .int, .int], some (.int)⟩) rfl) rfl (Nat.le_of_eq rfl) (hb hby down_cm3_9) e5 ?_
  intro T18 L19 v21 X20 hQ
  obtain ⟨rfl, N16', K15, F17⟩ := hQ
  show own_Out _ _ _ _ (T18.setTop (mkF m 12 #[.val (.ref b), .val (.int (0 : Int32)), .val (.int (1 : Int32)), .val (.ref a9), .unset, .unset] [(.int (1 : Int32))]))
  have N16 := Fr.app N0 N16'
  have Eo := own_ext_keep E6 K15 go
  refine own_st (G := T18.setTop (mkF m 14 #[.val (.ref b), .val (.int (0 : Int32)), .val (.int (1 : Int32)), .val (.ref a9), .val (.int (1 : Int32)), .unset] [])) (fun _ kk => XS.istore X20.here hx rfl (hb hby down_cm3_12) rfl (l' := #[.val (.ref b), .val (.int (0 : Int32)), .val (.int (1 : Int32)), .val (.ref a9), .val (.int (1 : Int32)), .unset]) rfl kk) ?_
  refine own_st (G := T18.setTop (mkF m 16 #[.val (.ref b), .val (.int (0 : Int32)), .val (.int (1 : Int32)), .val (.ref a9), .val (.int (1 : Int32)), .unset] [(.int (1 : Int32))])) (fun _ kk => XS.iload X20.here hx rfl (hb hby down_cm3_14) rfl kk) ?_
  refine own_st (G := T18.setTop (mkF m 17 #[.val (.ref b), .val (.int (0 : Int32)), .val (.int (1 : Int32)), .val (.ref a9), .val (.int (1 : Int32)), .unset] [(.int (1 : Int32)), (.int (1 : Int32))])) (fun _ kk => XS.iloadN X20.here hx rfl (hb hby down_cm3_16) rfl kk) ?_
  refine own_st (G := T18.setTop (mkF m 57 #[.val (.ref b), .val (.int (0 : Int32)), .val (.int (1 : Int32)), .val (.ref a9), .val (.int (1 : Int32)), .unset] [])) (fun _ kk => XS.icmpYes X20.here hx rfl (pc0 := 17) (pc' := 57) rfl (hb hby down_cm3_17) rfl (XT.ii_eq_t (by decide : (1 : Int32) = (1 : Int32))) (by decide) (by decide) kk) ?_
  refine own_st (G := T18.setTop (mkF m 58 #[.val (.ref b), .val (.int (0 : Int32)), .val (.int (1 : Int32)), .val (.ref a9), .val (.int (1 : Int32)), .unset] [(.ref a9)])) (fun _ kk => XS.aloadN X20.here hx rfl (hb hby down_cm3_57) rfl rfl kk) ?_
  refine own_retA X20 hx hret rfl rfl hlk (hb hby down_cm3_58) (by decide) (by decide) ?_
  exact ⟨_, rfl, N16, Eo, go, F17⟩
theorem pn_own_cod_1 : plainFor (⟨"java/lang/StringUTF16", "coderFromArrayLen", "([BI)B"⟩ : MethodName) = true := by first | exact plainFor_of_name (by first | (simp [plainName, overriddenIn]; done) | decide +kernel) | decide +kernel
theorem down_cod_0 : decode jdk_52_method_15_code 0 = .ok (.iload_n 1, 1) := by decide +kernel
theorem down_cod_1 : decode jdk_52_method_15_code 1 = .ok (.aload_n 0, 1) := by decide +kernel
theorem down_cod_2 : decode jdk_52_method_15_code 2 = .ok (.arraylength, 1) := by decide +kernel
theorem down_cod_3 : decode jdk_52_method_15_code 3 = .ok (.isub, 1) := by decide +kernel
theorem down_cod_4 : decode jdk_52_method_15_code 4 = .ok (.bipush 31, 2) := by decide +kernel
theorem down_cod_6 : decode jdk_52_method_15_code 6 = .ok (.iushr, 1) := by decide +kernel
theorem down_cod_7 : decode jdk_52_method_15_code 7 = .ok (.i2b, 1) := by decide +kernel
theorem down_cod_8 : decode jdk_52_method_15_code 8 = .ok (.ireturn, 1) := by decide +kernel
def Q_own_cod_1 (Z : State)  (b : Addr) (f : Nat → Int32) (h0 : Heap) (n0 : Nat) (v : Option Value) (h : Heap) (L : List Loc) : Prop := v = some (.int 0) ∧ L = [] ∧ h = h0
set_option maxRecDepth 65536 in
set_option maxHeartbeats 40000000 in
theorem own_cod_1 (l : Launch) (Z : State) (a0 : Array Value) (hw : ∀ d ∈ tables_1, d.before a0 Z = true) (ws : List Jvm.Cond)  (b : Addr) (f : Nat → Int32) (h0 : Heap) (n0 : Nat) (Fb : own_AB Z h0 b 1 f) :
    MetFree l (⟨"java/lang/StringUTF16", "coderFromArrayLen", "([BI)B"⟩ : MethodName) (head1 (Jvm.Cond.code (⟨"java/lang/StringUTF16", "coderFromArrayLen", "([BI)B"⟩ : MethodName) jdk_52_method_15_code 2 (some (.byte)) :: ws) ({ frames := 0, cells := 0, slots := 0, locals := 0 } : Room)) (fun aa U => aa = #[(.ref b), (.int (1 : Int32))] ∧ Z.Warmed39 U.vm ∧ U.heap = h0) (fun _ _ _ _ _ => True) (fun _ U o U' => ∃ v L, o = .returned v ∧ Q_own_cod_1 Z b f h0 n0 v U'.heap L ∧ FrameEnd U o U' L ({ frames := 0, cells := 0, slots := 0, locals := 0 } : Room).cells ({ frames := 0, cells := 0, slots := 0, locals := 0 } : Room).slots) := by
  refine own_body (x := (⟨"java/lang/StringUTF16", "coderFromArrayLen", "([BI)B"⟩ : MethodName)) (maxL := 2) (as' := #[(.ref b), (.int (1 : Int32))]) (Q := Q_own_cod_1 Z b f h0 n0) pn_own_cod_1 #[.val (.ref b), .val (.int (1 : Int32))] (fun m => by first | (simp [entryFrame, mkF, argsToLocals, Value.category]; done) | rfl) ?_
  intro p e s m below meth c T0 X0 hx hby hml hret hlk hown hnm hZ e0
  replace hml : c.maxLocals = 2 := hml
  replace hown : s.vm.findClass "java/lang/StringUTF16" = some m.cls := hown
  have N0 := Fr.nil n0
  refine own_st (G := T0.setTop (mkF m 1 #[.val (.ref b), .val (.int (1 : Int32))] [(.int (1 : Int32))])) (fun _ kk => XS.iloadN X0.here hx rfl (hb hby down_cod_0) rfl kk) ?_
  refine own_st (G := T0.setTop (mkF m 2 #[.val (.ref b), .val (.int (1 : Int32))] [(.ref b), (.int (1 : Int32))])) (fun _ kk => XS.aloadN X0.here hx rfl (hb hby down_cod_1) rfl rfl kk) ?_
  refine own_lenB X0 hx hZ e0 Fb (z := (1 : Int32)) rfl (hb hby down_cod_2) ?_
  show own_Out _ _ _ _ (T0.setTop (mkF m 3 #[.val (.ref b), .val (.int (1 : Int32))] [(.int (1 : Int32)), (.int (1 : Int32))]))
  refine own_st (G := T0.setTop (mkF m 4 #[.val (.ref b), .val (.int (1 : Int32))] [(.int ((1 : Int32) - (1 : Int32)))])) (fun _ kk => XS.isub X0.here hx rfl (hb hby down_cod_3) rfl kk) ?_
  rw [show ((1 : Int32) - (1 : Int32)) = (0 : Int32) from by decide +kernel]
  refine own_st (G := T0.setTop (mkF m 6 #[.val (.ref b), .val (.int (1 : Int32))] [(.int (31 : Int32)), (.int (0 : Int32))])) (fun _ kk => XT.bipushV X0.here hx rfl (31 : Int32) (hb hby down_cod_4) (by decide) kk) ?_
  refine own_st (G := T0.setTop (mkF m 7 #[.val (.ref b), .val (.int (1 : Int32))] [(.int (XT.ushr (0 : Int32) (31 : Int32)))])) (fun _ kk => XT.iushr X0.here hx rfl (hb hby down_cod_6) rfl kk) ?_
  refine own_st (G := T0.setTop (mkF m 8 #[.val (.ref b), .val (.int (1 : Int32))] [(.int (XT.ushr (0 : Int32) (31 : Int32)).toInt8.toInt32)])) (fun _ kk => XS.i2b X0.here hx rfl (hb hby down_cod_7) rfl kk) ?_
  refine own_retB X0 hx hret (by simp) hlk (hb hby down_cod_8) (by decide) (by decide) ?_
  exact ⟨by decide, rfl, e0⟩
theorem pn_own_cm3_2 : plainFor (⟨"java/lang/StringUTF16", "compress", "([CII)[B"⟩ : MethodName) = true := by first | exact plainFor_of_name (by first | (simp [plainName, overriddenIn]; done) | decide +kernel) | decide +kernel
def Q_own_cm3_2 (Z : State)  (b : Addr) (fc : Nat → Int32) (h0 : Heap) (n0 : Nat) (v : Option Value) (h : Heap) (L : List Loc) : Prop := ∃ o : Nat, v = some (.ref o) ∧ Fr n0 L ∧ Ext h0 h ∧ h0.size ≤ o ∧ own_AB Z h o 2 (fun i => nar .byte (fc i).toInt8.toInt32)
set_option maxRecDepth 65536 in
set_option maxHeartbeats 40000000 in
theorem own_cm3_2 (l : Launch) (Z : State) (a0 : Array Value) (hw : ∀ d ∈ tables_1, d.before a0 Z = true) (ws : List Jvm.Cond)  (b : Addr) (fc : Nat → Int32) (h0 : Heap) (n0 : Nat) (g0 : n0 ≤ h0.size) (Fb : own_AC Z h0 b 2 fc) (hc : ∀ i, i < 2 → ¬ (255 : Int32) < fc i) :
    MetFree l (⟨"java/lang/StringUTF16", "compress", "([CII)[B"⟩ : MethodName) (head1 (Jvm.Cond.code (⟨"java/lang/StringUTF16", "compress", "([CII)[B"⟩ : MethodName) jdk_52_method_16_code 6 (some (.array (.byte))) :: ws) ({ frames := 1, cells := 1, slots := 2, locals := 18 } : Room)) (fun aa U => aa = #[(.ref b), (.int (0 : Int32)), (.int (2 : Int32))] ∧ Z.Warmed39 U.vm ∧ U.heap = h0) (fun _ _ _ _ _ => True) (fun _ U o U' => ∃ v L, o = .returned v ∧ Q_own_cm3_2 Z b fc h0 n0 v U'.heap L ∧ FrameEnd U o U' L ({ frames := 1, cells := 1, slots := 2, locals := 18 } : Room).cells ({ frames := 1, cells := 1, slots := 2, locals := 18 } : Room).slots) := by
  refine own_body (x := (⟨"java/lang/StringUTF16", "compress", "([CII)[B"⟩ : MethodName)) (maxL := 6) (as' := #[(.ref b), (.int (0 : Int32)), (.int (2 : Int32))]) (Q := Q_own_cm3_2 Z b fc h0 n0) pn_own_cm3_2 #[.val (.ref b), .val (.int (0 : Int32)), .val (.int (2 : Int32)), .unset, .unset, .unset] (fun m => by first | (simp [entryFrame, mkF, argsToLocals, Value.category]; done) | rfl) ?_
  intro p e s m below meth c T0 X0 hx hby hml hret hlk hown hnm hZ e0
  replace hml : c.maxLocals = 6 := hml
  replace hown : s.vm.findClass "java/lang/StringUTF16" = some m.cls := hown
  have N0 := Fr.nil n0
  refine own_st (G := T0.setTop (mkF m 1 #[.val (.ref b), .val (.int (0 : Int32)), .val (.int (2 : Int32)), .unset, .unset, .unset] [(.int (2 : Int32))])) (fun _ kk => XS.iloadN X0.here hx rfl (hb hby down_cm3_0) rfl kk) ?_
  obtain ⟨T1, h2, cA3, X4, e5, E6, A7, EX12, st8⟩ := newPE X0 hx hZ (own_w hw 20 rfl) e0 (g := (mkF m 1 #[.val (.ref b), .val (.int (0 : Int32)), .val (.int (2 : Int32)), .unset, .unset, .unset] [(.int (2 : Int32))])) rfl (hb hby down_cm3_1) rfl (by decide) (cap := 2) (by decide) (by decide) (by decide) (by decide) (ad := "[B") rfl
  obtain ⟨a9, g10⟩ : ∃ z, z = h0.size := ⟨_, rfl⟩
  rw [← g10] at A7 st8 EX12
  refine own_st st8 ?_
  show own_Out _ _ _ _ (T1.setTop (mkF m 3 #[.val (.ref b), .val (.int (0 : Int32)), .val (.int (2 : Int32)), .unset, .unset, .unset] [(.ref a9)]))
  have go : h0.size ≤ a9 := Nat.le_of_eq g10.symm
  have go0 : n0 ≤ a9 := Nat.le_trans g0 go
  have nbo : b ≠ a9 := Nat.ne_of_lt (Nat.lt_of_lt_of_le (own_AC_lt Fb) go)
  have F13 := own_AB_new (n := 2) A7 EX12 (by decide) rfl
  have F14 := own_AC_ext Fb E6
  refine own_st (G := T1.setTop (mkF m 4 #[.val (.ref b), .val (.int (0 : Int32)), .val (.int (2 : Int32)), .val (.ref a9), .unset, .unset] [])) (fun _ kk => XS.astoreN X4.here hx rfl (hb hby down_cm3_3) rfl rfl (l' := #[.val (.ref b), .val (.int (0 : Int32)), .val (.int (2 : Int32)), .val (.ref a9), .unset, .unset]) rfl kk) ?_
  refine own_st (G := T1.setTop (mkF m 5 #[.val (.ref b), .val (.int (0 : Int32)), .val (.int (2 : Int32)), .val (.ref a9), .unset, .unset] [(.ref b)])) (fun _ kk => XS.aloadN X4.here hx rfl (hb hby down_cm3_4) rfl rfl kk) ?_
  refine own_st (G := T1.setTop (mkF m 6 #[.val (.ref b), .val (.int (0 : Int32)), .val (.int (2 : Int32)), .val (.ref a9), .unset, .unset] [(.int (0 : Int32)), (.ref b)])) (fun _ kk => XS.iloadN X4.here hx rfl (hb hby down_cm3_5) rfl kk) ?_
  refine own_st (G := T1.setTop (mkF m 7 #[.val (.ref b), .val (.int (0 : Int32)), .val (.int (2 : Int32)), .val (.ref a9), .unset, .unset] [(.ref a9), (.int (0 : Int32)), (.ref b)])) (fun _ kk => XS.aloadN X4.here hx rfl (hb hby down_cm3_6) rfl rfl kk) ?_
  refine own_st (G := T1.setTop (mkF m 8 #[.val (.ref b), .val (.int (0 : Int32)), .val (.int (2 : Int32)), .val (.ref a9), .unset, .unset] [(.int (0 : Int32)), (.ref a9), (.int (0 : Int32)), (.ref b)])) (fun _ kk => XT.iconstV X4.here hx rfl (0 : Int32) (hb hby down_cm3_7) (by decide) kk) ?_
  refine own_st (G := T1.setTop (mkF m 9 #[.val (.ref b), .val (.int (0 : Int32)), .val (.int (2 : Int32)), .val (.ref a9), .unset, .unset] [(.int (2 : Int32)), (.int (0 : Int32)), (.ref a9), (.int (0 : Int32)), (.ref b)])) (fun _ kk => XS.iloadN X4.here hx rfl (hb hby down_cm3_8) rfl kk) ?_
  refine own_callS X4 hx hZ (y := (⟨"java/lang/StringUTF16", "compress", "([CI[BII)I"⟩ : MethodName)) (as' := [(.ref b), (.int (0 : Int32)), (.ref a9), (.int (0 : Int32)), (.int (2 : Int32))]) hown (own_w hw 73 rfl) (own_w hw 74 rfl) (own_w hw 71 rfl) (own_w hw 75 rfl) (by decide) (own_cm4_2 l Z a0 hw [] b a9 fc h2 n0 go0 nbo F14 F13 hc) 0 (by decide) (by decide) (by decide) (by decide) (rest := []) (by rw [hml]; rfl) (lenOf (by decide : parseMethodDescriptor "([CI[BII)I" = some ⟨[.array (.char), .int, .array (.byte), .int, .int], some (.int)⟩) rfl) rfl (Nat.le_of_eq rfl) (hb hby down_cm3_9) e5 ?_
  intro T18 L19 v21 X20 hQ
  obtain ⟨rfl, N16', K15, F17⟩ := hQ
  show own_Out _ _ _ _ (T18.setTop (mkF m 12 #[.val (.ref b), .val (.int (0 : Int32)), .val (.int (2 : Int32)), .val (.ref a9), .unset, .unset] [(.int (2 : Int32))]))
  have N16 := Fr.app N0 N16'
  have Eo := own_ext_keep E6 K15 go
  refine own_st (G := T18.setTop (mkF m 14 #[.val (.ref b), .val (.int (0 : Int32)), .val (.int (2 : Int32)), .val (.ref a9), .val (.int (2 : Int32)), .unset] [])) (fun _ kk => XS.istore X20.here hx rfl (hb hby down_cm3_12) rfl (l' := #[.val (.ref b), .val (.int (0 : Int32)), .val (.int (2 : Int32)), .val (.ref a9), .val (.int (2 : Int32)), .unset]) rfl kk) ?_
  refine own_st (G := T18.setTop (mkF m 16 #[.val (.ref b), .val (.int (0 : Int32)), .val (.int (2 : Int32)), .val (.ref a9), .val (.int (2 : Int32)), .unset] [(.int (2 : Int32))])) (fun _ kk => XS.iload X20.here hx rfl (hb hby down_cm3_14) rfl kk) ?_
  refine own_st (G := T18.setTop (mkF m 17 #[.val (.ref b), .val (.int (0 : Int32)), .val (.int (2 : Int32)), .val (.ref a9), .val (.int (2 : Int32)), .unset] [(.int (2 : Int32)), (.int (2 : Int32))])) (fun _ kk => XS.iloadN X20.here hx rfl (hb hby down_cm3_16) rfl kk) ?_
  refine own_st (G := T18.setTop (mkF m 57 #[.val (.ref b), .val (.int (0 : Int32)), .val (.int (2 : Int32)), .val (.ref a9), .val (.int (2 : Int32)), .unset] [])) (fun _ kk => XS.icmpYes X20.here hx rfl (pc0 := 17) (pc' := 57) rfl (hb hby down_cm3_17) rfl (XT.ii_eq_t (by decide : (2 : Int32) = (2 : Int32))) (by decide) (by decide) kk) ?_
  refine own_st (G := T18.setTop (mkF m 58 #[.val (.ref b), .val (.int (0 : Int32)), .val (.int (2 : Int32)), .val (.ref a9), .val (.int (2 : Int32)), .unset] [(.ref a9)])) (fun _ kk => XS.aloadN X20.here hx rfl (hb hby down_cm3_57) rfl rfl kk) ?_
  refine own_retA X20 hx hret rfl rfl hlk (hb hby down_cm3_58) (by decide) (by decide) ?_
  exact ⟨_, rfl, N16, Eo, go, F17⟩
theorem pn_own_cod_2 : plainFor (⟨"java/lang/StringUTF16", "coderFromArrayLen", "([BI)B"⟩ : MethodName) = true := by first | exact plainFor_of_name (by first | (simp [plainName, overriddenIn]; done) | decide +kernel) | decide +kernel
def Q_own_cod_2 (Z : State)  (b : Addr) (f : Nat → Int32) (h0 : Heap) (n0 : Nat) (v : Option Value) (h : Heap) (L : List Loc) : Prop := v = some (.int 0) ∧ L = [] ∧ h = h0
set_option maxRecDepth 65536 in
set_option maxHeartbeats 40000000 in
theorem own_cod_2 (l : Launch) (Z : State) (a0 : Array Value) (hw : ∀ d ∈ tables_1, d.before a0 Z = true) (ws : List Jvm.Cond)  (b : Addr) (f : Nat → Int32) (h0 : Heap) (n0 : Nat) (Fb : own_AB Z h0 b 2 f) :
    MetFree l (⟨"java/lang/StringUTF16", "coderFromArrayLen", "([BI)B"⟩ : MethodName) (head1 (Jvm.Cond.code (⟨"java/lang/StringUTF16", "coderFromArrayLen", "([BI)B"⟩ : MethodName) jdk_52_method_15_code 2 (some (.byte)) :: ws) ({ frames := 0, cells := 0, slots := 0, locals := 0 } : Room)) (fun aa U => aa = #[(.ref b), (.int (2 : Int32))] ∧ Z.Warmed39 U.vm ∧ U.heap = h0) (fun _ _ _ _ _ => True) (fun _ U o U' => ∃ v L, o = .returned v ∧ Q_own_cod_2 Z b f h0 n0 v U'.heap L ∧ FrameEnd U o U' L ({ frames := 0, cells := 0, slots := 0, locals := 0 } : Room).cells ({ frames := 0, cells := 0, slots := 0, locals := 0 } : Room).slots) := by
  refine own_body (x := (⟨"java/lang/StringUTF16", "coderFromArrayLen", "([BI)B"⟩ : MethodName)) (maxL := 2) (as' := #[(.ref b), (.int (2 : Int32))]) (Q := Q_own_cod_2 Z b f h0 n0) pn_own_cod_2 #[.val (.ref b), .val (.int (2 : Int32))] (fun m => by first | (simp [entryFrame, mkF, argsToLocals, Value.category]; done) | rfl) ?_
  intro p e s m below meth c T0 X0 hx hby hml hret hlk hown hnm hZ e0
  replace hml : c.maxLocals = 2 := hml
  replace hown : s.vm.findClass "java/lang/StringUTF16" = some m.cls := hown
  have N0 := Fr.nil n0
  refine own_st (G := T0.setTop (mkF m 1 #[.val (.ref b), .val (.int (2 : Int32))] [(.int (2 : Int32))])) (fun _ kk => XS.iloadN X0.here hx rfl (hb hby down_cod_0) rfl kk) ?_
  refine own_st (G := T0.setTop (mkF m 2 #[.val (.ref b), .val (.int (2 : Int32))] [(.ref b), (.int (2 : Int32))])) (fun _ kk => XS.aloadN X0.here hx rfl (hb hby down_cod_1) rfl rfl kk) ?_
  refine own_lenB X0 hx hZ e0 Fb (z := (2 : Int32)) rfl (hb hby down_cod_2) ?_
  show own_Out _ _ _ _ (T0.setTop (mkF m 3 #[.val (.ref b), .val (.int (2 : Int32))] [(.int (2 : Int32)), (.int (2 : Int32))]))
  refine own_st (G := T0.setTop (mkF m 4 #[.val (.ref b), .val (.int (2 : Int32))] [(.int ((2 : Int32) - (2 : Int32)))])) (fun _ kk => XS.isub X0.here hx rfl (hb hby down_cod_3) rfl kk) ?_
  rw [show ((2 : Int32) - (2 : Int32)) = (0 : Int32) from by decide +kernel]
  refine own_st (G := T0.setTop (mkF m 6 #[.val (.ref b), .val (.int (2 : Int32))] [(.int (31 : Int32)), (.int (0 : Int32))])) (fun _ kk => XT.bipushV X0.here hx rfl (31 : Int32) (hb hby down_cod_4) (by decide) kk) ?_
  refine own_st (G := T0.setTop (mkF m 7 #[.val (.ref b), .val (.int (2 : Int32))] [(.int (XT.ushr (0 : Int32) (31 : Int32)))])) (fun _ kk => XT.iushr X0.here hx rfl (hb hby down_cod_6) rfl kk) ?_
  refine own_st (G := T0.setTop (mkF m 8 #[.val (.ref b), .val (.int (2 : Int32))] [(.int (XT.ushr (0 : Int32) (31 : Int32)).toInt8.toInt32)])) (fun _ kk => XS.i2b X0.here hx rfl (hb hby down_cod_7) rfl kk) ?_
  refine own_retB X0 hx hret (by simp) hlk (hb hby down_cod_8) (by decide) (by decide) ?_
  exact ⟨by decide, rfl, e0⟩
theorem pn_own_leq : plainFor (⟨"java/lang/StringLatin1", "equals", "([B[B)Z"⟩ : MethodName) = true := by first | exact plainFor_of_name (by first | (simp [plainName, overriddenIn]; done) | decide +kernel) | decide +kernel
theorem down_leq_0 : decode jdk_43_method_13_code 0 = .ok (.aload_n 0, 1) := by decide +kernel
theorem down_leq_1 : decode jdk_43_method_13_code 1 = .ok (.arraylength, 1) := by decide +kernel
theorem down_leq_2 : decode jdk_43_method_13_code 2 = .ok (.aload_n 1, 1) := by decide +kernel
theorem down_leq_3 : decode jdk_43_method_13_code 3 = .ok (.arraylength, 1) := by decide +kernel
theorem down_leq_4 : decode jdk_43_method_13_code 4 = .ok (.if_icmp .ne 30, 3) := by decide +kernel
theorem down_leq_7 : decode jdk_43_method_13_code 7 = .ok (.iconst 0, 1) := by decide +kernel
theorem down_leq_8 : decode jdk_43_method_13_code 8 = .ok (.istore_n 2, 1) := by decide +kernel
theorem down_leq_9 : decode jdk_43_method_13_code 9 = .ok (.iload_n 2, 1) := by decide +kernel
theorem down_leq_10 : decode jdk_43_method_13_code 10 = .ok (.aload_n 0, 1) := by decide +kernel
theorem down_leq_11 : decode jdk_43_method_13_code 11 = .ok (.arraylength, 1) := by decide +kernel
theorem down_leq_12 : decode jdk_43_method_13_code 12 = .ok (.if_icmp .ge 20, 3) := by decide +kernel
theorem down_leq_15 : decode jdk_43_method_13_code 15 = .ok (.aload_n 0, 1) := by decide +kernel
theorem down_leq_16 : decode jdk_43_method_13_code 16 = .ok (.iload_n 2, 1) := by decide +kernel
theorem down_leq_17 : decode jdk_43_method_13_code 17 = .ok (.baload, 1) := by decide +kernel
theorem down_leq_18 : decode jdk_43_method_13_code 18 = .ok (.aload_n 1, 1) := by decide +kernel
theorem down_leq_19 : decode jdk_43_method_13_code 19 = .ok (.iload_n 2, 1) := by decide +kernel
theorem down_leq_20 : decode jdk_43_method_13_code 20 = .ok (.baload, 1) := by decide +kernel
theorem down_leq_21 : decode jdk_43_method_13_code 21 = .ok (.if_icmp .eq 5, 3) := by decide +kernel
theorem down_leq_24 : decode jdk_43_method_13_code 24 = .ok (.iconst 0, 1) := by decide +kernel
theorem down_leq_25 : decode jdk_43_method_13_code 25 = .ok (.ireturn, 1) := by decide +kernel
theorem down_leq_26 : decode jdk_43_method_13_code 26 = .ok (.iinc 2 1, 3) := by decide +kernel
theorem down_leq_29 : decode jdk_43_method_13_code 29 = .ok (.goto (-20), 3) := by decide +kernel
theorem down_leq_32 : decode jdk_43_method_13_code 32 = .ok (.iconst 1, 1) := by decide +kernel
theorem down_leq_33 : decode jdk_43_method_13_code 33 = .ok (.ireturn, 1) := by decide +kernel
theorem down_leq_34 : decode jdk_43_method_13_code 34 = .ok (.iconst 0, 1) := by decide +kernel
theorem down_leq_35 : decode jdk_43_method_13_code 35 = .ok (.ireturn, 1) := by decide +kernel
def Q_own_leq (Z : State)  (b1 b2 : Addr) (n1 n2 : Nat) (f1 f2 : Nat → Int32) (h0 : Heap) (n0 : Nat) (v : Option Value) (h : Heap) (L : List Loc) : Prop := ∃ r : Int32, v = some (.int r) ∧ (r = 0 ∨ r = 1) ∧ L = [] ∧ h = h0 ∧ (r = 1 → n1 = n2 ∧ ∀ i, i < n1 → f1 i = f2 i) ∧ ((n1 = n2 ∧ ∀ i, i < n1 → f1 i = f2 i) → r = 1)
set_option maxRecDepth 65536 in
set_option maxHeartbeats 40000000 in
theorem own_leq (l : Launch) (Z : State) (a0 : Array Value) (hw : ∀ d ∈ tables_1, d.before a0 Z = true) (ws : List Jvm.Cond)  (b1 b2 : Addr) (n1 n2 : Nat) (f1 f2 : Nat → Int32) (h0 : Heap) (n0 : Nat) (h1 : n1 ≤ 2) (h2 : n2 ≤ 2) (F1 : own_AW Z h0 b1 n1 f1) (F2 : own_AW Z h0 b2 n2 f2) :
    MetFree l (⟨"java/lang/StringLatin1", "equals", "([B[B)Z"⟩ : MethodName) (head1 (Jvm.Cond.code (⟨"java/lang/StringLatin1", "equals", "([B[B)Z"⟩ : MethodName) jdk_43_method_13_code 3 (some (.boolean)) :: ws) ({ frames := 0, cells := 0, slots := 0, locals := 0 } : Room)) (fun aa U => aa = #[(.ref b1), (.ref b2)] ∧ Z.Warmed39 U.vm ∧ U.heap = h0) (fun _ _ _ _ _ => True) (fun _ U o U' => ∃ v L, o = .returned v ∧ Q_own_leq Z b1 b2 n1 n2 f1 f2 h0 n0 v U'.heap L ∧ FrameEnd U o U' L ({ frames := 0, cells := 0, slots := 0, locals := 0 } : Room).cells ({ frames := 0, cells := 0, slots := 0, locals := 0 } : Room).slots) := by
  refine own_body (x := (⟨"java/lang/StringLatin1", "equals", "([B[B)Z"⟩ : MethodName)) (maxL := 3) (as' := #[(.ref b1), (.ref b2)]) (Q := Q_own_leq Z b1 b2 n1 n2 f1 f2 h0 n0) pn_own_leq #[.val (.ref b1), .val (.ref b2), .unset] (fun m => by first | (simp [entryFrame, mkF, argsToLocals, Value.category]; done) | rfl) ?_
  intro p e s m below meth c T0 X0 hx hby hml hret hlk hown hnm hZ e0
  replace hml : c.maxLocals = 3 := hml
  replace hown : s.vm.findClass "java/lang/StringLatin1" = some m.cls := hown
  have N0 := Fr.nil n0
  refine own_st (G := T0.setTop (mkF m 1 #[.val (.ref b1), .val (.ref b2), .unset] [(.ref b1)])) (fun _ kk => XS.aloadN X0.here hx rfl (hb hby down_leq_0) rfl rfl kk) ?_
  refine own_lenW X0 hx hZ e0 F1 (z := (Int32.ofNat n1)) rfl (hb hby down_leq_1) ?_
  show own_Out _ _ _ _ (T0.setTop (mkF m 2 #[.val (.ref b1), .val (.ref b2), .unset] [(.int (Int32.ofNat n1))]))
  refine own_st (G := T0.setTop (mkF m 3 #[.val (.ref b1), .val (.ref b2), .unset] [(.ref b2), (.int (Int32.ofNat n1))])) (fun _ kk => XS.aloadN X0.here hx rfl (hb hby down_leq_2) rfl rfl kk) ?_
  refine own_lenW X0 hx hZ e0 F2 (z := (Int32.ofNat n2)) rfl (hb hby down_leq_3) ?_
  show own_Out _ _ _ _ (T0.setTop (mkF m 4 #[.val (.ref b1), .val (.ref b2), .unset] [(.int (Int32.ofNat n2)), (.int (Int32.ofNat n1))]))
  by_cases hc1 : (Int32.ofNat n1) = (Int32.ofNat n2)
  · skip
    refine own_st (G := T0.setTop (mkF m 7 #[.val (.ref b1), .val (.ref b2), .unset] [])) (fun _ kk => XS.icmpNo X0.here hx rfl (hb hby down_leq_4) rfl (XT.ii_ne_f hc1) kk) ?_
    have hlen : n1 = n2 := (own_eqn h1 h2 hc1)
    refine own_st (G := T0.setTop (mkF m 8 #[.val (.ref b1), .val (.ref b2), .unset] [(.int (0 : Int32))])) (fun _ kk => XT.iconstV X0.here hx rfl (0 : Int32) (hb hby down_leq_7) (by decide) kk) ?_
    refine own_st (G := T0.setTop (mkF m 9 #[.val (.ref b1), .val (.ref b2), .val (.int (0 : Int32))] [])) (fun _ kk => XS.istoreN X0.here hx rfl (hb hby down_leq_8) rfl (l' := #[.val (.ref b1), .val (.ref b2), .val (.int (0 : Int32))]) rfl kk) ?_
    refine own_st (G := T0.setTop (mkF m 10 #[.val (.ref b1), .val (.ref b2), .val (.int (0 : Int32))] [(.int (0 : Int32))])) (fun _ kk => XS.iloadN X0.here hx rfl (hb hby down_leq_9) rfl kk) ?_
    refine own_st (G := T0.setTop (mkF m 11 #[.val (.ref b1), .val (.ref b2), .val (.int (0 : Int32))] [(.ref b1), (.int (0 : Int32))])) (fun _ kk => XS.aloadN X0.here hx rfl (hb hby down_leq_10) rfl rfl kk) ?_
    refine own_lenW X0 hx hZ e0 F1 (z := (Int32.ofNat n1)) rfl (hb hby down_leq_11) ?_
    show own_Out _ _ _ _ (T0.setTop (mkF m 12 #[.val (.ref b1), .val (.ref b2), .val (.int (0 : Int32))] [(.int (Int32.ofNat n1)), (.int (0 : Int32))]))
    by_cases hc2 : (0 : Int32) < (Int32.ofNat n1)
    · skip
      refine own_st (G := T0.setTop (mkF m 15 #[.val (.ref b1), .val (.ref b2), .val (.int (0 : Int32))] [])) (fun _ kk => XS.icmpNo X0.here hx rfl (hb hby down_leq_12) rfl (XT.ii_ge_f hc2) kk) ?_
      refine own_st (G := T0.setTop (mkF m 16 #[.val (.ref b1), .val (.ref b2), .val (.int (0 : Int32))] [(.ref b1)])) (fun _ kk => XS.aloadN X0.here hx rfl (hb hby down_leq_15) rfl rfl kk) ?_
      refine own_st (G := T0.setTop (mkF m 17 #[.val (.ref b1), .val (.ref b2), .val (.int (0 : Int32))] [(.int (0 : Int32)), (.ref b1)])) (fun _ kk => XS.iloadN X0.here hx rfl (hb hby down_leq_16) rfl kk) ?_
      refine own_baloadW X0 hx hZ e0 F1 (j := (0 : Int32)) (i := 0) (by decide) rfl (own_ltn0 h1 hlen hc2).1 (hb hby down_leq_17) ?_
      show own_Out _ _ _ _ (T0.setTop (mkF m 18 #[.val (.ref b1), .val (.ref b2), .val (.int (0 : Int32))] [(.int (f1 0))]))
      refine own_st (G := T0.setTop (mkF m 19 #[.val (.ref b1), .val (.ref b2), .val (.int (0 : Int32))] [(.ref b2), (.int (f1 0))])) (fun _ kk => XS.aloadN X0.here hx rfl (hb hby down_leq_18) rfl rfl kk) ?_
      refine own_st (G := T0.setTop (mkF m 20 #[.val (.ref b1), .val (.ref b2), .val (.int (0 : Int32))] [(.int (0 : Int32)), (.ref b2), (.int (f1 0))])) (fun _ kk => XS.iloadN X0.here hx rfl (hb hby down_leq_19) rfl kk) ?_
      refine own_baloadW X0 hx hZ e0 F2 (j := (0 : Int32)) (i := 0) (by decide) rfl (own_ltn0 h1 hlen hc2).2 (hb hby down_leq_20) ?_
      show own_Out _ _ _ _ (T0.setTop (mkF m 21 #[.val (.ref b1), .val (.ref b2), .val (.int (0 : Int32))] [(.int (f2 0)), (.int (f1 0))]))
      by_cases hc3 : (f1 0) = (f2 0)
      · skip
        refine own_st (G := T0.setTop (mkF m 26 #[.val (.ref b1), .val (.ref b2), .val (.int (0 : Int32))] [])) (fun _ kk => XS.icmpYes X0.here hx rfl (pc0 := 21) (pc' := 26) rfl (hb hby down_leq_21) rfl (XT.ii_eq_t hc3) (by decide) (by decide) kk) ?_
        refine own_st (G := T0.setTop (mkF m 29 #[.val (.ref b1), .val (.ref b2), .val (.int ((0 : Int32) + (1 : Int32)))] [])) (fun _ kk => XT.iincV X0.here hx rfl (1 : Int32) (hb hby down_leq_26) (by decide) rfl (l' := #[.val (.ref b1), .val (.ref b2), .val (.int ((0 : Int32) + (1 : Int32)))]) rfl kk) ?_
        rw [show ((0 : Int32) + (1 : Int32)) = (1 : Int32) from by decide +kernel]
        refine own_st (G := T0.setTop (mkF m 9 #[.val (.ref b1), .val (.ref b2), .val (.int (1 : Int32))] [])) (fun _ kk => XS.goto X0.here hx rfl (pc0 := 29) (pc' := 9) rfl (hb hby down_leq_29) (by decide) (by decide) kk) ?_
        refine own_st (G := T0.setTop (mkF m 10 #[.val (.ref b1), .val (.ref b2), .val (.int (1 : Int32))] [(.int (1 : Int32))])) (fun _ kk => XS.iloadN X0.here hx rfl (hb hby down_leq_9) rfl kk) ?_
        refine own_st (G := T0.setTop (mkF m 11 #[.val (.ref b1), .val (.ref b2), .val (.int (1 : Int32))] [(.ref b1), (.int (1 : Int32))])) (fun _ kk => XS.aloadN X0.here hx rfl (hb hby down_leq_10) rfl rfl kk) ?_
        refine own_lenW X0 hx hZ e0 F1 (z := (Int32.ofNat n1)) rfl (hb hby down_leq_11) ?_
        show own_Out _ _ _ _ (T0.setTop (mkF m 12 #[.val (.ref b1), .val (.ref b2), .val (.int (1 : Int32))] [(.int (Int32.ofNat n1)), (.int (1 : Int32))]))
        by_cases hc4 : (1 : Int32) < (Int32.ofNat n1)
        · skip
          refine own_st (G := T0.setTop (mkF m 15 #[.val (.ref b1), .val (.ref b2), .val (.int (1 : Int32))] [])) (fun _ kk => XS.icmpNo X0.here hx rfl (hb hby down_leq_12) rfl (XT.ii_ge_f hc4) kk) ?_
          refine own_st (G := T0.setTop (mkF m 16 #[.val (.ref b1), .val (.ref b2), .val (.int (1 : Int32))] [(.ref b1)])) (fun _ kk => XS.aloadN X0.here hx rfl (hb hby down_leq_15) rfl rfl kk) ?_
          refine own_st (G := T0.setTop (mkF m 17 #[.val (.ref b1), .val (.ref b2), .val (.int (1 : Int32))] [(.int (1 : Int32)), (.ref b1)])) (fun _ kk => XS.iloadN X0.here hx rfl (hb hby down_leq_16) rfl kk) ?_
          refine own_baloadW X0 hx hZ e0 F1 (j := (1 : Int32)) (i := 1) (by decide) rfl (own_ltn1 h1 hlen hc4).1 (hb hby down_leq_17) ?_
          show own_Out _ _ _ _ (T0.setTop (mkF m 18 #[.val (.ref b1), .val (.ref b2), .val (.int (1 : Int32))] [(.int (f1 1))]))
          refine own_st (G := T0.setTop (mkF m 19 #[.val (.ref b1), .val (.ref b2), .val (.int (1 : Int32))] [(.ref b2), (.int (f1 1))])) (fun _ kk => XS.aloadN X0.here hx rfl (hb hby down_leq_18) rfl rfl kk) ?_
          refine own_st (G := T0.setTop (mkF m 20 #[.val (.ref b1), .val (.ref b2), .val (.int (1 : Int32))] [(.int (1 : Int32)), (.ref b2), (.int (f1 1))])) (fun _ kk => XS.iloadN X0.here hx rfl (hb hby down_leq_19) rfl kk) ?_
          refine own_baloadW X0 hx hZ e0 F2 (j := (1 : Int32)) (i := 1) (by decide) rfl (own_ltn1 h1 hlen hc4).2 (hb hby down_leq_20) ?_
          show own_Out _ _ _ _ (T0.setTop (mkF m 21 #[.val (.ref b1), .val (.ref b2), .val (.int (1 : Int32))] [(.int (f2 1)), (.int (f1 1))]))
          by_cases hc5 : (f1 1) = (f2 1)
          · skip
            refine own_st (G := T0.setTop (mkF m 26 #[.val (.ref b1), .val (.ref b2), .val (.int (1 : Int32))] [])) (fun _ kk => XS.icmpYes X0.here hx rfl (pc0 := 21) (pc' := 26) rfl (hb hby down_leq_21) rfl (XT.ii_eq_t hc5) (by decide) (by decide) kk) ?_
            refine own_st (G := T0.setTop (mkF m 29 #[.val (.ref b1), .val (.ref b2), .val (.int ((1 : Int32) + (1 : Int32)))] [])) (fun _ kk => XT.iincV X0.here hx rfl (1 : Int32) (hb hby down_leq_26) (by decide) rfl (l' := #[.val (.ref b1), .val (.ref b2), .val (.int ((1 : Int32) + (1 : Int32)))]) rfl kk) ?_
            rw [show ((1 : Int32) + (1 : Int32)) = (2 : Int32) from by decide +kernel]
            refine own_st (G := T0.setTop (mkF m 9 #[.val (.ref b1), .val (.ref b2), .val (.int (2 : Int32))] [])) (fun _ kk => XS.goto X0.here hx rfl (pc0 := 29) (pc' := 9) rfl (hb hby down_leq_29) (by decide) (by decide) kk) ?_
            refine own_st (G := T0.setTop (mkF m 10 #[.val (.ref b1), .val (.ref b2), .val (.int (2 : Int32))] [(.int (2 : Int32))])) (fun _ kk => XS.iloadN X0.here hx rfl (hb hby down_leq_9) rfl kk) ?_
            refine own_st (G := T0.setTop (mkF m 11 #[.val (.ref b1), .val (.ref b2), .val (.int (2 : Int32))] [(.ref b1), (.int (2 : Int32))])) (fun _ kk => XS.aloadN X0.here hx rfl (hb hby down_leq_10) rfl rfl kk) ?_
            refine own_lenW X0 hx hZ e0 F1 (z := (Int32.ofNat n1)) rfl (hb hby down_leq_11) ?_
            show own_Out _ _ _ _ (T0.setTop (mkF m 12 #[.val (.ref b1), .val (.ref b2), .val (.int (2 : Int32))] [(.int (Int32.ofNat n1)), (.int (2 : Int32))]))
            have hk6 : ¬ ((2 : Int32) < (Int32.ofNat n1)) := (own_no2 h1)
            refine own_st (G := T0.setTop (mkF m 32 #[.val (.ref b1), .val (.ref b2), .val (.int (2 : Int32))] [])) (fun _ kk => XS.icmpYes X0.here hx rfl (pc0 := 12) (pc' := 32) rfl (hb hby down_leq_12) rfl (XT.ii_ge_t hk6) (by decide) (by decide) kk) ?_
            refine own_st (G := T0.setTop (mkF m 33 #[.val (.ref b1), .val (.ref b2), .val (.int (2 : Int32))] [(.int (1 : Int32))])) (fun _ kk => XT.iconstV X0.here hx rfl (1 : Int32) (hb hby down_leq_32) (by decide) kk) ?_
            refine own_retB X0 hx hret (by simp) hlk (hb hby down_leq_33) (by decide) (by decide) ?_
            exact ⟨_, rfl, Or.inr rfl, rfl, e0, fun _ => ⟨hlen, own_up2 h1 hk6 hc3 hc5⟩, fun _ => rfl⟩
          · skip
            refine own_st (G := T0.setTop (mkF m 24 #[.val (.ref b1), .val (.ref b2), .val (.int (1 : Int32))] [])) (fun _ kk => XS.icmpNo X0.here hx rfl (hb hby down_leq_21) rfl (XT.ii_eq_f hc5) kk) ?_
            refine own_st (G := T0.setTop (mkF m 25 #[.val (.ref b1), .val (.ref b2), .val (.int (1 : Int32))] [(.int (0 : Int32))])) (fun _ kk => XT.iconstV X0.here hx rfl (0 : Int32) (hb hby down_leq_24) (by decide) kk) ?_
            refine own_retB X0 hx hret (by simp) hlk (hb hby down_leq_25) (by decide) (by decide) ?_
            exact ⟨_, rfl, Or.inl rfl, rfl, e0, fun z => absurd z (by decide), fun z => absurd (z.2 1 (own_ltn1 h1 hlen hc4).1) hc5⟩
        · skip
          refine own_st (G := T0.setTop (mkF m 32 #[.val (.ref b1), .val (.ref b2), .val (.int (1 : Int32))] [])) (fun _ kk => XS.icmpYes X0.here hx rfl (pc0 := 12) (pc' := 32) rfl (hb hby down_leq_12) rfl (XT.ii_ge_t hc4) (by decide) (by decide) kk) ?_
          refine own_st (G := T0.setTop (mkF m 33 #[.val (.ref b1), .val (.ref b2), .val (.int (1 : Int32))] [(.int (1 : Int32))])) (fun _ kk => XT.iconstV X0.here hx rfl (1 : Int32) (hb hby down_leq_32) (by decide) kk) ?_
          refine own_retB X0 hx hret (by simp) hlk (hb hby down_leq_33) (by decide) (by decide) ?_
          exact ⟨_, rfl, Or.inr rfl, rfl, e0, fun _ => ⟨hlen, own_up1 h1 hc4 hc3⟩, fun _ => rfl⟩
      · skip
        refine own_st (G := T0.setTop (mkF m 24 #[.val (.ref b1), .val (.ref b2), .val (.int (0 : Int32))] [])) (fun _ kk => XS.icmpNo X0.here hx rfl (hb hby down_leq_21) rfl (XT.ii_eq_f hc3) kk) ?_
        refine own_st (G := T0.setTop (mkF m 25 #[.val (.ref b1), .val (.ref b2), .val (.int (0 : Int32))] [(.int (0 : Int32))])) (fun _ kk => XT.iconstV X0.here hx rfl (0 : Int32) (hb hby down_leq_24) (by decide) kk) ?_
        refine own_retB X0 hx hret (by simp) hlk (hb hby down_leq_25) (by decide) (by decide) ?_
        exact ⟨_, rfl, Or.inl rfl, rfl, e0, fun z => absurd z (by decide), fun z => absurd (z.2 0 (own_ltn0 h1 hlen hc2).1) hc3⟩
    · skip
      refine own_st (G := T0.setTop (mkF m 32 #[.val (.ref b1), .val (.ref b2), .val (.int (0 : Int32))] [])) (fun _ kk => XS.icmpYes X0.here hx rfl (pc0 := 12) (pc' := 32) rfl (hb hby down_leq_12) rfl (XT.ii_ge_t hc2) (by decide) (by decide) kk) ?_
      refine own_st (G := T0.setTop (mkF m 33 #[.val (.ref b1), .val (.ref b2), .val (.int (0 : Int32))] [(.int (1 : Int32))])) (fun _ kk => XT.iconstV X0.here hx rfl (1 : Int32) (hb hby down_leq_32) (by decide) kk) ?_
      refine own_retB X0 hx hret (by simp) hlk (hb hby down_leq_33) (by decide) (by decide) ?_
      exact ⟨_, rfl, Or.inr rfl, rfl, e0, fun _ => ⟨hlen, own_up0 h1 hc2 ⟩, fun _ => rfl⟩
  · skip
    refine own_st (G := T0.setTop (mkF m 34 #[.val (.ref b1), .val (.ref b2), .unset] [])) (fun _ kk => XS.icmpYes X0.here hx rfl (pc0 := 4) (pc' := 34) rfl (hb hby down_leq_4) rfl (XT.ii_ne_t hc1) (by decide) (by decide) kk) ?_
    refine own_st (G := T0.setTop (mkF m 35 #[.val (.ref b1), .val (.ref b2), .unset] [(.int (0 : Int32))])) (fun _ kk => XT.iconstV X0.here hx rfl (0 : Int32) (hb hby down_leq_34) (by decide) kk) ?_
    refine own_retB X0 hx hret (by simp) hlk (hb hby down_leq_35) (by decide) (by decide) ?_
    exact ⟨_, rfl, Or.inl rfl, rfl, e0, fun z => absurd z (by decide), fun z => absurd (by rw [z.1]) hc1⟩
theorem pn_own_eq : plainFor (⟨"java/lang/String", "equals", "(Ljava/lang/Object;)Z"⟩ : MethodName) = true := by first | exact plainFor_of_name (by first | (simp [plainName, overriddenIn]; done) | decide +kernel) | decide +kernel
theorem down_eq_0 : decode jdk_42_method_66_code 0 = .ok (.aload_n 0, 1) := by decide +kernel
theorem down_eq_1 : decode jdk_42_method_66_code 1 = .ok (.aload_n 1, 1) := by decide +kernel
theorem down_eq_2 : decode jdk_42_method_66_code 2 = .ok (.if_acmp .ne 5, 3) := by decide +kernel
theorem down_eq_7 : decode jdk_42_method_66_code 7 = .ok (.aload_n 1, 1) := by decide +kernel
theorem down_eq_8 : decode jdk_42_method_66_code 8 = .ok (.instanceof 10, 3) := by decide +kernel
theorem down_eq_11 : decode jdk_42_method_66_code 11 = .ok (.ifCond .eq 43, 3) := by decide +kernel
theorem down_eq_14 : decode jdk_42_method_66_code 14 = .ok (.aload_n 1, 1) := by decide +kernel
theorem down_eq_15 : decode jdk_42_method_66_code 15 = .ok (.checkcast 10, 3) := by decide +kernel
theorem down_eq_18 : decode jdk_42_method_66_code 18 = .ok (.astore_n 2, 1) := by decide +kernel
theorem down_eq_19 : decode jdk_42_method_66_code 19 = .ok (.getstatic 38, 3) := by decide +kernel
theorem down_eq_22 : decode jdk_42_method_66_code 22 = .ok (.ifCond .eq 14, 3) := by decide +kernel
theorem down_eq_25 : decode jdk_42_method_66_code 25 = .ok (.aload_n 0, 1) := by decide +kernel
theorem down_eq_26 : decode jdk_42_method_66_code 26 = .ok (.getfield 15, 3) := by decide +kernel
theorem down_eq_29 : decode jdk_42_method_66_code 29 = .ok (.aload_n 2, 1) := by decide +kernel
theorem down_eq_30 : decode jdk_42_method_66_code 30 = .ok (.getfield 15, 3) := by decide +kernel
theorem down_eq_33 : decode jdk_42_method_66_code 33 = .ok (.if_icmp .ne 21, 3) := by decide +kernel
theorem down_eq_36 : decode jdk_42_method_66_code 36 = .ok (.aload_n 0, 1) := by decide +kernel
theorem down_eq_37 : decode jdk_42_method_66_code 37 = .ok (.getfield 9, 3) := by decide +kernel
theorem down_eq_40 : decode jdk_42_method_66_code 40 = .ok (.aload_n 2, 1) := by decide +kernel
theorem down_eq_41 : decode jdk_42_method_66_code 41 = .ok (.getfield 9, 3) := by decide +kernel
theorem down_eq_44 : decode jdk_42_method_66_code 44 = .ok (.invokestatic 541, 3) := by decide +kernel
theorem down_eq_47 : decode jdk_42_method_66_code 47 = .ok (.ifCond .eq 7, 3) := by decide +kernel
theorem down_eq_50 : decode jdk_42_method_66_code 50 = .ok (.iconst 1, 1) := by decide +kernel
theorem down_eq_51 : decode jdk_42_method_66_code 51 = .ok (.goto 4, 3) := by decide +kernel
theorem down_eq_54 : decode jdk_42_method_66_code 54 = .ok (.iconst 0, 1) := by decide +kernel
theorem down_eq_55 : decode jdk_42_method_66_code 55 = .ok (.ireturn, 1) := by decide +kernel
def Q_own_eq (Z : State)  (a1 a2 b1 b2 : Addr) (n1 n2 : Nat) (f1 f2 : Nat → Int32) (cs : Int32) (h0 : Heap) (n0 : Nat) (v : Option Value) (h : Heap) (L : List Loc) : Prop := ∃ r : Int32, v = some (.int r) ∧ (r = 0 ∨ r = 1) ∧ L = [] ∧ h = h0 ∧ (r = 1 → (n1 = n2 ∧ ∀ i, i < n1 → f1 i = f2 i)) ∧ ((n1 = n2 ∧ ∀ i, i < n1 → f1 i = f2 i) → r = 1)
set_option maxRecDepth 65536 in
set_option maxHeartbeats 40000000 in
theorem own_eq (l : Launch) (Z : State) (a0 : Array Value) (hw : ∀ d ∈ tables_1, d.before a0 Z = true) (ws : List Jvm.Cond)  (a1 a2 b1 b2 : Addr) (n1 n2 : Nat) (f1 f2 : Nat → Int32) (cs : Int32) (h0 : Heap) (n0 : Nat) (O1 : own_S0 Z h0 a1 (.ref b1) (0 : Int32)) (O2 : own_S0 Z h0 a2 (.ref b2) (0 : Int32)) (F1 : own_AW Z h0 b1 n1 f1) (F2 : own_AW Z h0 b2 n2 f2) (h1 : n1 ≤ 2) (h2 : n2 ≤ 2) (hne : a1 ≠ a2) (CS : Sta Z h0 "java/lang/String" "COMPACT_STRINGS" "Z" (.int cs)) (hcs : ¬ cs = (0 : Int32)) :
    MetFree l (⟨"java/lang/String", "equals", "(Ljava/lang/Object;)Z"⟩ : MethodName) (head1 (Jvm.Cond.code (⟨"java/lang/String", "equals", "(Ljava/lang/Object;)Z"⟩ : MethodName) jdk_42_method_66_code 3 (some (.boolean)) :: ws) ({ frames := 1, cells := 0, slots := 0, locals := 14 } : Room)) (fun aa U => aa = #[(.ref a1), (.ref a2)] ∧ Z.Warmed39 U.vm ∧ U.heap = h0) (fun _ _ _ _ _ => True) (fun _ U o U' => ∃ v L, o = .returned v ∧ Q_own_eq Z a1 a2 b1 b2 n1 n2 f1 f2 cs h0 n0 v U'.heap L ∧ FrameEnd U o U' L ({ frames := 1, cells := 0, slots := 0, locals := 14 } : Room).cells ({ frames := 1, cells := 0, slots := 0, locals := 14 } : Room).slots) := by
  refine own_body (x := (⟨"java/lang/String", "equals", "(Ljava/lang/Object;)Z"⟩ : MethodName)) (maxL := 3) (as' := #[(.ref a1), (.ref a2)]) (Q := Q_own_eq Z a1 a2 b1 b2 n1 n2 f1 f2 cs h0 n0) pn_own_eq #[.val (.ref a1), .val (.ref a2), .unset] (fun m => by first | (simp [entryFrame, mkF, argsToLocals, Value.category]; done) | rfl) ?_
  intro p e s m below meth c T0 X0 hx hby hml hret hlk hown hnm hZ e0
  replace hml : c.maxLocals = 3 := hml
  replace hown : s.vm.findClass "java/lang/String" = some m.cls := hown
  have N0 := Fr.nil n0
  refine own_st (G := T0.setTop (mkF m 1 #[.val (.ref a1), .val (.ref a2), .unset] [(.ref a1)])) (fun _ kk => XS.aloadN X0.here hx rfl (hb hby down_eq_0) rfl rfl kk) ?_
  refine own_st (G := T0.setTop (mkF m 2 #[.val (.ref a1), .val (.ref a2), .unset] [(.ref a2), (.ref a1)])) (fun _ kk => XS.aloadN X0.here hx rfl (hb hby down_eq_1) rfl rfl kk) ?_
  have hk1 : ¬ (((.ref a1) : Value) = (.ref a2)) := (fun q => hne (Value.ref.inj q))
  refine own_st (G := T0.setTop (mkF m 7 #[.val (.ref a1), .val (.ref a2), .unset] [])) (fun _ kk => XT.acmpYes X0.here hx rfl (pc0 := 2) (pc' := 7) rfl (hb hby down_eq_2) rfl rfl rfl (XT.aa_ne_t hk1) (by decide) (by decide) kk) ?_
  refine own_st (G := T0.setTop (mkF m 8 #[.val (.ref a1), .val (.ref a2), .unset] [(.ref a2)])) (fun _ kk => XS.aloadN X0.here hx rfl (hb hby down_eq_7) rfl rfl kk) ?_
  obtain ⟨T2, X3, e4, st5⟩ := instY X0 hx hZ hown (own_w hw 63 rfl) e0 (Ins.self (O2).1) (g := (mkF m 8 #[.val (.ref a1), .val (.ref a2), .unset] [(.ref a2)])) rfl rfl (hb hby down_eq_8)
  refine own_st st5 ?_
  show own_Out _ _ _ _ (T2.setTop (mkF m 11 #[.val (.ref a1), .val (.ref a2), .unset] [(.int (1 : Int32))]))
  refine own_st (G := T2.setTop (mkF m 14 #[.val (.ref a1), .val (.ref a2), .unset] [])) (fun _ kk => XS.ifNo X3.here hx rfl (hb hby down_eq_11) rfl (XT.i0_eq_f (by decide : ¬ (1 : Int32) = (0 : Int32))) kk) ?_
  refine own_st (G := T2.setTop (mkF m 15 #[.val (.ref a1), .val (.ref a2), .unset] [(.ref a2)])) (fun _ kk => XS.aloadN X3.here hx rfl (hb hby down_eq_14) rfl rfl kk) ?_
  obtain ⟨T6, X7, e8, st9⟩ := castY X3 hx hZ hown (own_w hw 63 rfl) e4 (Ins.self (O2).1) (g := (mkF m 15 #[.val (.ref a1), .val (.ref a2), .unset] [(.ref a2)])) rfl rfl (hb hby down_eq_15)
  refine own_st st9 ?_
  show own_Out _ _ _ _ (T6.setTop (mkF m 18 #[.val (.ref a1), .val (.ref a2), .unset] [(.ref a2)]))
  refine own_st (G := T6.setTop (mkF m 19 #[.val (.ref a1), .val (.ref a2), .val (.ref a2)] [])) (fun _ kk => XS.astoreN X7.here hx rfl (hb hby down_eq_18) rfl rfl (l' := #[.val (.ref a1), .val (.ref a2), .val (.ref a2)]) rfl kk) ?_
  obtain ⟨T10, X11, e12, st13⟩ := getS (host := "") X7 hx hZ hown (own_w hw 64 rfl) Via.refl e8 CS (g := (mkF m 19 #[.val (.ref a1), .val (.ref a2), .val (.ref a2)] [])) rfl (hb hby down_eq_19)
  refine own_st st13 ?_
  show own_Out _ _ _ _ (T10.setTop (mkF m 22 #[.val (.ref a1), .val (.ref a2), .val (.ref a2)] [(.int cs)]))
  have hk14 : ¬ (cs = (0 : Int32)) := hcs
  refine own_st (G := T10.setTop (mkF m 25 #[.val (.ref a1), .val (.ref a2), .val (.ref a2)] [])) (fun _ kk => XS.ifNo X11.here hx rfl (hb hby down_eq_22) rfl (XT.i0_eq_f hk14) kk) ?_
  refine own_st (G := T10.setTop (mkF m 26 #[.val (.ref a1), .val (.ref a2), .val (.ref a2)] [(.ref a1)])) (fun _ kk => XS.aloadN X11.here hx rfl (hb hby down_eq_25) rfl rfl kk) ?_
  obtain ⟨T15, X16, e17, st18⟩ := getF X11 hx hZ hown (host := "") (Or.inl (own_w hw 26 rfl)) Via.refl e12 (O1).2.2 (g := (mkF m 26 #[.val (.ref a1), .val (.ref a2), .val (.ref a2)] [(.ref a1)])) rfl rfl (hb hby down_eq_26)
  refine own_st st18 ?_
  show own_Out _ _ _ _ (T15.setTop (mkF m 29 #[.val (.ref a1), .val (.ref a2), .val (.ref a2)] [(.int (0 : Int32))]))
  refine own_st (G := T15.setTop (mkF m 30 #[.val (.ref a1), .val (.ref a2), .val (.ref a2)] [(.ref a2), (.int (0 : Int32))])) (fun _ kk => XS.aloadN X16.here hx rfl (hb hby down_eq_29) rfl rfl kk) ?_
  obtain ⟨T19, X20, e21, st22⟩ := getF X16 hx hZ hown (host := "") (Or.inl (own_w hw 26 rfl)) Via.refl e17 (O2).2.2 (g := (mkF m 30 #[.val (.ref a1), .val (.ref a2), .val (.ref a2)] [(.ref a2), (.int (0 : Int32))])) rfl rfl (hb hby down_eq_30)
  refine own_st st22 ?_
  show own_Out _ _ _ _ (T19.setTop (mkF m 33 #[.val (.ref a1), .val (.ref a2), .val (.ref a2)] [(.int (0 : Int32)), (.int (0 : Int32))]))
  refine own_st (G := T19.setTop (mkF m 36 #[.val (.ref a1), .val (.ref a2), .val (.ref a2)] [])) (fun _ kk => XS.icmpNo X20.here hx rfl (hb hby down_eq_33) rfl (XT.ii_ne_f (by decide : (0 : Int32) = (0 : Int32))) kk) ?_
  refine own_st (G := T19.setTop (mkF m 37 #[.val (.ref a1), .val (.ref a2), .val (.ref a2)] [(.ref a1)])) (fun _ kk => XS.aloadN X20.here hx rfl (hb hby down_eq_36) rfl rfl kk) ?_
  obtain ⟨T23, X24, e25, st26⟩ := getF X20 hx hZ hown (host := "") (Or.inl (own_w hw 25 rfl)) Via.refl e21 (O1).2.1 (g := (mkF m 37 #[.val (.ref a1), .val (.ref a2), .val (.ref a2)] [(.ref a1)])) rfl rfl (hb hby down_eq_37)
  refine own_st st26 ?_
  show own_Out _ _ _ _ (T23.setTop (mkF m 40 #[.val (.ref a1), .val (.ref a2), .val (.ref a2)] [(.ref b1)]))
  refine own_st (G := T23.setTop (mkF m 41 #[.val (.ref a1), .val (.ref a2), .val (.ref a2)] [(.ref a2), (.ref b1)])) (fun _ kk => XS.aloadN X24.here hx rfl (hb hby down_eq_40) rfl rfl kk) ?_
  obtain ⟨T27, X28, e29, st30⟩ := getF X24 hx hZ hown (host := "") (Or.inl (own_w hw 25 rfl)) Via.refl e25 (O2).2.1 (g := (mkF m 41 #[.val (.ref a1), .val (.ref a2), .val (.ref a2)] [(.ref a2), (.ref b1)])) rfl rfl (hb hby down_eq_41)
  refine own_st st30 ?_
  show own_Out _ _ _ _ (T27.setTop (mkF m 44 #[.val (.ref a1), .val (.ref a2), .val (.ref a2)] [(.ref b2), (.ref b1)]))
  refine own_callS X28 hx hZ (y := (⟨"java/lang/StringLatin1", "equals", "([B[B)Z"⟩ : MethodName)) (as' := [(.ref b1), (.ref b2)]) hown (own_w hw 65 rfl) (own_w hw 66 rfl) (own_w hw 67 rfl) (own_w hw 68 rfl) (by decide) (own_leq l Z a0 hw [] b1 b2 n1 n2 f1 f2 h0 n0 h1 h2 F1 F2) 0 (by decide) (by decide) (by decide) (by decide) (rest := []) (by rw [hml]; rfl) (lenOf (by decide : parseMethodDescriptor "([B[B)Z" = some ⟨[.array (.byte), .array (.byte)], some (.boolean)⟩) rfl) rfl (Nat.le_of_eq rfl) (hb hby down_eq_44) e29 ?_
  intro T32 L33 v35 X34 hQ
  obtain ⟨r, rfl, hr, rfl, eq31, q1, q2⟩ := hQ
  show own_Out _ _ _ _ (T32.setTop (mkF m 47 #[.val (.ref a1), .val (.ref a2), .val (.ref a2)] [(.int r)]))
  by_cases hc36 : r = (0 : Int32)
  · skip
    refine own_st (G := T32.setTop (mkF m 54 #[.val (.ref a1), .val (.ref a2), .val (.ref a2)] [])) (fun _ kk => XS.ifYes X34.here hx rfl (pc0 := 47) (pc' := 54) rfl (hb hby down_eq_47) rfl (XT.i0_eq_t hc36) (by decide) (by decide) kk) ?_
    refine own_st (G := T32.setTop (mkF m 55 #[.val (.ref a1), .val (.ref a2), .val (.ref a2)] [(.int (0 : Int32))])) (fun _ kk => XT.iconstV X34.here hx rfl (0 : Int32) (hb hby down_eq_54) (by decide) kk) ?_
    refine own_retB X34 hx hret (by simp) hlk (hb hby down_eq_55) (by decide) (by decide) ?_
    exact ⟨_, rfl, Or.inl rfl, rfl, eq31, fun z => absurd z (by decide), fun z => absurd (hc36.symm.trans (q2 z)) (by decide)⟩
  · skip
    refine own_st (G := T32.setTop (mkF m 50 #[.val (.ref a1), .val (.ref a2), .val (.ref a2)] [])) (fun _ kk => XS.ifNo X34.here hx rfl (hb hby down_eq_47) rfl (XT.i0_eq_f hc36) kk) ?_
    refine own_st (G := T32.setTop (mkF m 51 #[.val (.ref a1), .val (.ref a2), .val (.ref a2)] [(.int (1 : Int32))])) (fun _ kk => XT.iconstV X34.here hx rfl (1 : Int32) (hb hby down_eq_50) (by decide) kk) ?_
    refine own_st (G := T32.setTop (mkF m 55 #[.val (.ref a1), .val (.ref a2), .val (.ref a2)] [(.int (1 : Int32))])) (fun _ kk => XS.goto X34.here hx rfl (pc0 := 51) (pc' := 55) rfl (hb hby down_eq_51) (by decide) (by decide) kk) ?_
    refine own_retB X34 hx hret (by simp) hlk (hb hby down_eq_55) (by decide) (by decide) ?_
    exact ⟨_, rfl, Or.inr rfl, rfl, eq31, fun _ => q1 (hr.resolve_left hc36), fun _ => rfl⟩
theorem pn_own_i4_0 : plainFor (⟨"java/lang/String", "<init>", "([CIILjava/lang/Void;)V"⟩ : MethodName) = true := by first | exact plainFor_of_name (by first | (simp [plainName, overriddenIn]; done) | decide +kernel) | decide +kernel
theorem down_i4_0 : decode jdk_42_method_149_code 0 = .ok (.aload_n 0, 1) := by decide +kernel
theorem down_i4_1 : decode jdk_42_method_149_code 1 = .ok (.invokespecial 1, 3) := by decide +kernel
theorem down_i4_4 : decode jdk_42_method_149_code 4 = .ok (.iload_n 3, 1) := by decide +kernel
theorem down_i4_5 : decode jdk_42_method_149_code 5 = .ok (.ifCond .ne 22, 3) := by decide +kernel
theorem down_i4_8 : decode jdk_42_method_149_code 8 = .ok (.aload_n 0, 1) := by decide +kernel
theorem down_i4_9 : decode jdk_42_method_149_code 9 = .ok (.ldc 7, 2) := by decide +kernel
theorem down_i4_11 : decode jdk_42_method_149_code 11 = .ok (.getfield 9, 3) := by decide +kernel
theorem down_i4_14 : decode jdk_42_method_149_code 14 = .ok (.putfield 9, 3) := by decide +kernel
theorem down_i4_17 : decode jdk_42_method_149_code 17 = .ok (.aload_n 0, 1) := by decide +kernel
theorem down_i4_18 : decode jdk_42_method_149_code 18 = .ok (.ldc 7, 2) := by decide +kernel
theorem down_i4_20 : decode jdk_42_method_149_code 20 = .ok (.getfield 15, 3) := by decide +kernel
theorem down_i4_23 : decode jdk_42_method_149_code 23 = .ok (.putfield 15, 3) := by decide +kernel
theorem down_i4_26 : decode jdk_42_method_149_code 26 = .ok (.return_, 1) := by decide +kernel
def Q_own_i4_0 (Z : State)  (a b : Addr) (fc : Nat → Int32) (cs : Int32) (h0 : Heap) (n0 : Nat) (v : Option Value) (vm : Vm) (h : Heap) (L : List Loc) : Prop := v = none ∧ Fr n0 L ∧ Keep h0 h [a] ∧ (∃ o : Addr, own_S0 Z h a (.ref o) (0 : Int32) ∧ own_AW Z h o 0 (fun i => nar .byte (fc i).toInt8.toInt32)) ∧ own_G Z h vm
set_option maxRecDepth 65536 in
set_option maxHeartbeats 40000000 in
theorem own_i4_0 (l : Launch) (Z : State) (a0 : Array Value) (hw : ∀ d ∈ tables_1, d.before a0 Z = true) (ws : List Jvm.Cond)  (a b : Addr) (fc : Nat → Int32) (cs : Int32) (h0 : Heap) (n0 : Nat) (O : own_S0 Z h0 a .null (0 : Int32)) (Fb : own_AC Z h0 b 0 fc) (hc : ∀ i, i < 0 → ¬ (255 : Int32) < fc i) (hZn : Z.heap.size ≤ n0) (ga : n0 ≤ a) (CS : Sta Z h0 "java/lang/String" "COMPACT_STRINGS" "Z" (.int cs)) (hcs : ¬ cs = (0 : Int32)) (held : Jvm.Lit.constHeld Z "java/lang/String" 7) (hcw : Jvm.Lit.compactW.before a0 Z = true) :
    MetFree l (⟨"java/lang/String", "<init>", "([CIILjava/lang/Void;)V"⟩ : MethodName) (head1 (Jvm.Cond.code (⟨"java/lang/String", "<init>", "([CIILjava/lang/Void;)V"⟩ : MethodName) jdk_42_method_149_code 6 none :: ws) ({ frames := 2, cells := 2, slots := 4, locals := 35 } : Room)) (fun aa U => aa = #[(.ref a), (.ref b), (.int (0 : Int32)), (.int (0 : Int32)), .null] ∧ Z.Warmed39 U.vm ∧ U.heap = h0 ∧ own_G Z h0 U.vm) (fun _ _ _ _ _ => True) (fun _ U o U' => own_QV (Q_own_i4_0 Z a b fc cs h0 n0) U ({ frames := 2, cells := 2, slots := 4, locals := 35 } : Room).cells ({ frames := 2, cells := 2, slots := 4, locals := 35 } : Room).slots o U') := by
  refine own_bodyV (x := (⟨"java/lang/String", "<init>", "([CIILjava/lang/Void;)V"⟩ : MethodName)) (maxL := 6) (as' := #[(.ref a), (.ref b), (.int (0 : Int32)), (.int (0 : Int32)), .null]) (Q := Q_own_i4_0 Z a b fc cs h0 n0) (G := own_G Z h0) pn_own_i4_0 #[.val (.ref a), .val (.ref b), .val (.int (0 : Int32)), .val (.int (0 : Int32)), .val .null, .unset] (fun m => by first | (simp [entryFrame, mkF, argsToLocals, Value.category]; done) | rfl) ?_
  intro p e s m below meth c T0 X0 hx hby hml hret hlk hown hnm hZ e0 hs0 hG
  replace hml : c.maxLocals = 6 := hml
  replace hown : s.vm.findClass "java/lang/String" = some m.cls := hown
  have N0 := Fr.nil n0
  have g0 : n0 ≤ h0.size := Nat.le_trans ga (Nat.le_of_lt (O).1.lt)
  refine own_st (G := T0.setTop (mkF m 1 #[.val (.ref a), .val (.ref b), .val (.int (0 : Int32)), .val (.int (0 : Int32)), .val .null, .unset] [(.ref a)])) (fun _ kk => XS.aloadN X0.here hx rfl (hb hby down_i4_0) rfl rfl kk) ?_
  obtain ⟨T1, X2, e3, st4⟩ := initO X0 hx hZ hown (own_w hw 16 rfl) (own_w hw 17 rfl) (own_w hw 18 rfl) e0 (g := (mkF m 1 #[.val (.ref a), .val (.ref b), .val (.int (0 : Int32)), .val (.int (0 : Int32)), .val .null, .unset] [(.ref a)])) rfl (by rw [hml]; rfl) rfl (hb hby down_i4_1) (by decide) (W := 0) (by show 2 * 0 + _ ≤ _; exact Nat.le_of_eq rfl) (by decide)
  refine own_st st4 ?_
  show own_Out _ _ _ _ (T1.setTop (mkF m 4 #[.val (.ref a), .val (.ref b), .val (.int (0 : Int32)), .val (.int (0 : Int32)), .val .null, .unset] []))
  refine own_st (G := T1.setTop (mkF m 5 #[.val (.ref a), .val (.ref b), .val (.int (0 : Int32)), .val (.int (0 : Int32)), .val .null, .unset] [(.int (0 : Int32))])) (fun _ kk => XS.iloadN X2.here hx rfl (hb hby down_i4_4) rfl kk) ?_
  refine own_st (G := T1.setTop (mkF m 8 #[.val (.ref a), .val (.ref b), .val (.int (0 : Int32)), .val (.int (0 : Int32)), .val .null, .unset] [])) (fun _ kk => XS.ifNo X2.here hx rfl (hb hby down_i4_5) rfl (XT.i0_ne_f (by decide : (0 : Int32) = (0 : Int32))) kk) ?_
  refine own_st (G := T1.setTop (mkF m 9 #[.val (.ref a), .val (.ref b), .val (.int (0 : Int32)), .val (.int (0 : Int32)), .val .null, .unset] [(.ref a)])) (fun _ kk => XS.aloadN X2.here hx rfl (hb hby down_i4_8) rfl rfl kk) ?_
  obtain ⟨ea, eb, Tl, h1, vml, k1, Xl, el, El, Sl, hkl, hZl, hownl, EE, stl⟩ := own_ldc7 (Z := Z) (a0 := a0) X2 hx hZ hown (own_w hw 19 rfl) (own_sa hw) e3 hs0 hG held hcw (g := (mkF m 9 #[.val (.ref a), .val (.ref b), .val (.int (0 : Int32)), .val (.int (0 : Int32)), .val .null, .unset] [(.ref a)])) rfl (hb hby down_i4_9) (by decide) (by decide)
  replace hZ := hZl
  replace hown := hownl
  have Ol := own_S0_ext El O
  obtain ⟨ne1, ne2⟩ := own_E_ne (own_w hw 6 rfl) EE (Ol).1 (Ol).2.1
  have Kl := (Keep.refl h0 [a]).ext El
  refine own_st stl ?_
  show own_Out _ _ _ _ (Tl.setTop (mkF m 11 #[.val (.ref a), .val (.ref b), .val (.int (0 : Int32)), .val (.int (0 : Int32)), .val .null, .unset] [(.ref ea), (.ref a)]))
  obtain ⟨T5, X6, e7, st8⟩ := getF Xl hx hZ hown (host := "") (Or.inl (own_w hw 25 rfl)) Via.refl el EE.2.2.2.1 (g := (mkF m 11 #[.val (.ref a), .val (.ref b), .val (.int (0 : Int32)), .val (.int (0 : Int32)), .val .null, .unset] [(.ref ea), (.ref a)])) rfl rfl (hb hby down_i4_11)
  refine own_st st8 ?_
  show own_Out _ _ _ _ (T5.setTop (mkF m 14 #[.val (.ref a), .val (.ref b), .val (.int (0 : Int32)), .val (.int (0 : Int32)), .val .null, .unset] [(.ref eb), (.ref a)]))
  obtain ⟨T9, h10, X11, e12, W13, st14⟩ := putF X6 hx hZ hown (host := "") (Or.inl (own_w hw 25 rfl)) Via.refl e7 (Ol).2.1 (Ol).1 (Or.inr ⟨(own_w hw 21 rfl), rfl, hnm⟩) (own_w hw 6 rfl) (ty := .array (.byte)) (by decide) rfl rfl (g := (mkF m 14 #[.val (.ref a), .val (.ref b), .val (.int (0 : Int32)), .val (.int (0 : Int32)), .val .null, .unset] [(.ref eb), (.ref a)])) rfl rfl (hb hby down_i4_14)
  refine own_st st14 ?_
  show own_Out _ _ _ _ (T9.setTop (mkF m 17 #[.val (.ref a), .val (.ref b), .val (.int (0 : Int32)), .val (.int (0 : Int32)), .val .null, .unset] []))
  have O15 : own_S0 Z h10 a (.ref eb) (0 : Int32) := own_S0_value hw W13 Ol
  have N16 := Fr.snoc X11 N0 ga
  have K17 := Kl.wr W13 (Or.inl (List.mem_singleton.mpr rfl))
  have EE18 := own_E_keep (Keep.of_wr W13) (fun z => ne1 (List.mem_singleton.mp z)) (fun z => ne2 (List.mem_singleton.mp z)) EE
  have hk19 : k1 ≤ h10.size := by rw [W13.size]; exact hkl
  refine own_st (G := T9.setTop (mkF m 18 #[.val (.ref a), .val (.ref b), .val (.int (0 : Int32)), .val (.int (0 : Int32)), .val .null, .unset] [(.ref a)])) (fun _ kk => XS.aloadN X11.here hx rfl (hb hby down_i4_17) rfl rfl kk) ?_
  refine own_st (ldcAgain (s := s) (vm0 := vml) (Z := Z) (a0 := a0) X11 hx hZ hown (own_w hw 19 rfl) EE18.1 (g := (mkF m 18 #[.val (.ref a), .val (.ref b), .val (.int (0 : Int32)), .val (.int (0 : Int32)), .val .null, .unset] [(.ref a)])) rfl (hb hby down_i4_18)) ?_
  show own_Out _ _ _ _ (T9.setTop (mkF m 20 #[.val (.ref a), .val (.ref b), .val (.int (0 : Int32)), .val (.int (0 : Int32)), .val .null, .unset] [(.ref ea), (.ref a)]))
  obtain ⟨T20, X21, e22, st23⟩ := getF X11 hx hZ hown (host := "") (Or.inl (own_w hw 26 rfl)) Via.refl e12 EE18.2.2.1 (g := (mkF m 20 #[.val (.ref a), .val (.ref b), .val (.int (0 : Int32)), .val (.int (0 : Int32)), .val .null, .unset] [(.ref ea), (.ref a)])) rfl rfl (hb hby down_i4_20)
  refine own_st st23 ?_
  show own_Out _ _ _ _ (T20.setTop (mkF m 23 #[.val (.ref a), .val (.ref b), .val (.int (0 : Int32)), .val (.int (0 : Int32)), .val .null, .unset] [(.int (0 : Int32)), (.ref a)]))
  obtain ⟨T24, h25, X26, e27, W28, st29⟩ := putFN X21 hx hZ hown (own_w hw 26 rfl) Via.refl e22 (O15).2.2 (O15).1 (Or.inr ⟨(own_w hw 22 rfl), rfl, hnm⟩) (own_w hw 6 rfl) (ty := .byte) (v' := .int (nar .byte (0 : Int32))) (by decide) rfl (fits_nar_byte _) (g := (mkF m 23 #[.val (.ref a), .val (.ref b), .val (.int (0 : Int32)), .val (.int (0 : Int32)), .val .null, .unset] [(.int (0 : Int32)), (.ref a)])) rfl rfl (hb hby down_i4_23)
  refine own_st st29 ?_
  show own_Out _ _ _ _ (T24.setTop (mkF m 26 #[.val (.ref a), .val (.ref b), .val (.int (0 : Int32)), .val (.int (0 : Int32)), .val .null, .unset] []))
  have O30 : own_S0 Z h25 a (.ref eb) (0 : Int32) := own_S0_coder hw W28 O15
  have N31 := Fr.snoc X26 N16 ga
  have K32 := K17.wr W28 (Or.inl (List.mem_singleton.mpr rfl))
  have EE33 := own_E_keep (Keep.of_wr W28) (fun z => ne1 (List.mem_singleton.mp z)) (fun z => ne2 (List.mem_singleton.mp z)) EE18
  have hk34 : k1 ≤ h25.size := by rw [W28.size]; exact hk19
  refine own_ret0V (s := s) (vm1 := vml) X26 hx Sl (by rw [e27]; exact hk34) hret hlk (hb hby down_i4_26) (by decide) (by decide) ?_
  rw [e27]
  obtain ⟨kz, qz⟩ := EE33.2.2.2.2
  exact ⟨rfl, N31, K32, ⟨eb, O30, own_AW_arv qz⟩, Or.inr ⟨ea, eb, own_E_warm (s := s) (vm0 := vml) X26.warmed EE33⟩⟩
theorem pn_own_i1_0 : plainFor (⟨"java/lang/String", "<init>", "([C)V"⟩ : MethodName) = true := by first | exact plainFor_of_name (by first | (simp [plainName, overriddenIn]; done) | decide +kernel) | decide +kernel
theorem down_i1_0 : decode jdk_42_method_3_code 0 = .ok (.aload_n 0, 1) := by decide +kernel
theorem down_i1_1 : decode jdk_42_method_3_code 1 = .ok (.aload_n 1, 1) := by decide +kernel
theorem down_i1_2 : decode jdk_42_method_3_code 2 = .ok (.iconst 0, 1) := by decide +kernel
theorem down_i1_3 : decode jdk_42_method_3_code 3 = .ok (.aload_n 1, 1) := by decide +kernel
theorem down_i1_4 : decode jdk_42_method_3_code 4 = .ok (.arraylength, 1) := by decide +kernel
theorem down_i1_5 : decode jdk_42_method_3_code 5 = .ok (.aconst_null, 1) := by decide +kernel
theorem down_i1_6 : decode jdk_42_method_3_code 6 = .ok (.invokespecial 27, 3) := by decide +kernel
theorem down_i1_9 : decode jdk_42_method_3_code 9 = .ok (.return_, 1) := by decide +kernel
def Q_own_i1_0 (Z : State)  (a b : Addr) (fc : Nat → Int32) (cs : Int32) (h0 : Heap) (n0 : Nat) (v : Option Value) (vm : Vm) (h : Heap) (L : List Loc) : Prop := v = none ∧ Fr n0 L ∧ Keep h0 h [a] ∧ (∃ o : Addr, own_S0 Z h a (.ref o) (0 : Int32) ∧ own_AW Z h o 0 (fun i => nar .byte (fc i).toInt8.toInt32)) ∧ own_G Z h vm
set_option maxRecDepth 65536 in
set_option maxHeartbeats 40000000 in
theorem own_i1_0 (l : Launch) (Z : State) (a0 : Array Value) (hw : ∀ d ∈ tables_1, d.before a0 Z = true) (ws : List Jvm.Cond)  (a b : Addr) (fc : Nat → Int32) (cs : Int32) (h0 : Heap) (n0 : Nat) (O : own_S0 Z h0 a .null (0 : Int32)) (Fb : own_AC Z h0 b 0 fc) (hc : ∀ i, i < 0 → ¬ (255 : Int32) < fc i) (hZn : Z.heap.size ≤ n0) (ga : n0 ≤ a) (CS : Sta Z h0 "java/lang/String" "COMPACT_STRINGS" "Z" (.int cs)) (hcs : ¬ cs = (0 : Int32)) (held : Jvm.Lit.constHeld Z "java/lang/String" 7) (hcw : Jvm.Lit.compactW.before a0 Z = true) :
    MetFree l (⟨"java/lang/String", "<init>", "([C)V"⟩ : MethodName) (head1 (Jvm.Cond.code (⟨"java/lang/String", "<init>", "([C)V"⟩ : MethodName) jdk_42_method_3_code 2 none :: ws) ({ frames := 3, cells := 2, slots := 4, locals := 52 } : Room)) (fun aa U => aa = #[(.ref a), (.ref b)] ∧ Z.Warmed39 U.vm ∧ U.heap = h0 ∧ own_G Z h0 U.vm) (fun _ _ _ _ _ => True) (fun _ U o U' => own_QV (Q_own_i1_0 Z a b fc cs h0 n0) U ({ frames := 3, cells := 2, slots := 4, locals := 52 } : Room).cells ({ frames := 3, cells := 2, slots := 4, locals := 52 } : Room).slots o U') := by
  refine own_bodyV (x := (⟨"java/lang/String", "<init>", "([C)V"⟩ : MethodName)) (maxL := 2) (as' := #[(.ref a), (.ref b)]) (Q := Q_own_i1_0 Z a b fc cs h0 n0) (G := own_G Z h0) pn_own_i1_0 #[.val (.ref a), .val (.ref b)] (fun m => by first | (simp [entryFrame, mkF, argsToLocals, Value.category]; done) | rfl) ?_
  intro p e s m below meth c T0 X0 hx hby hml hret hlk hown hnm hZ e0 hs0 hG
  replace hml : c.maxLocals = 2 := hml
  replace hown : s.vm.findClass "java/lang/String" = some m.cls := hown
  have N0 := Fr.nil n0
  refine own_st (G := T0.setTop (mkF m 1 #[.val (.ref a), .val (.ref b)] [(.ref a)])) (fun _ kk => XS.aloadN X0.here hx rfl (hb hby down_i1_0) rfl rfl kk) ?_
  refine own_st (G := T0.setTop (mkF m 2 #[.val (.ref a), .val (.ref b)] [(.ref b), (.ref a)])) (fun _ kk => XS.aloadN X0.here hx rfl (hb hby down_i1_1) rfl rfl kk) ?_
  refine own_st (G := T0.setTop (mkF m 3 #[.val (.ref a), .val (.ref b)] [(.int (0 : Int32)), (.ref b), (.ref a)])) (fun _ kk => XT.iconstV X0.here hx rfl (0 : Int32) (hb hby down_i1_2) (by decide) kk) ?_
  refine own_st (G := T0.setTop (mkF m 4 #[.val (.ref a), .val (.ref b)] [(.ref b), (.int (0 : Int32)), (.ref b), (.ref a)])) (fun _ kk => XS.aloadN X0.here hx rfl (hb hby down_i1_3) rfl rfl kk) ?_
  refine own_lenC X0 hx hZ e0 Fb (z := (0 : Int32)) rfl (hb hby down_i1_4) ?_
  show own_Out _ _ _ _ (T0.setTop (mkF m 5 #[.val (.ref a), .val (.ref b)] [(.int (0 : Int32)), (.int (0 : Int32)), (.ref b), (.ref a)]))
  refine own_st (G := T0.setTop (mkF m 6 #[.val (.ref a), .val (.ref b)] [.null, (.int (0 : Int32)), (.int (0 : Int32)), (.ref b), (.ref a)])) (fun _ kk => XS.aconstNull X0.here hx rfl (hb hby down_i1_5) kk) ?_
  refine own_callIW (s := s) (vm0 := s.vm) X0 hx ((State.WarmedH.refl s).since 0) (Nat.zero_le _) hZ (y := (⟨"java/lang/String", "<init>", "([CIILjava/lang/Void;)V"⟩ : MethodName)) (b := a) (as' := [(.ref b), (.int (0 : Int32)), (.int (0 : Int32)), .null]) rfl hown (own_w hw 12 rfl) (own_w hw 13 rfl) (own_w hw 15 rfl) (own_w hw 7 rfl) (by decide) (own_i4_0 l Z a0 hw [] a b fc cs h0 n0 O Fb hc hZn ga CS hcs held hcw) (fun vm₁ ww => own_G_warm (s := s) (vm0 := s.vm) ww hG) 0 (by decide) (by decide) (by decide) (by decide) (rest := []) (by rw [hml]; rfl) (lenOf (by decide : parseMethodDescriptor "([CIILjava/lang/Void;)V" = some ⟨[.array (.char), .int, .int, .object "java/lang/Void"], none⟩) rfl) rfl (Nat.le_of_eq rfl) (hb hby down_i1_6) e0 ?_
  intro T2 L3 v5 X4 S6 hZ7 hown8 hQ
  replace hZ := hZ7
  replace hown := hown8
  obtain ⟨rfl, N1', Kj, Fj, Gj⟩ := hQ
  show own_Out _ _ _ _ (T2.setTop (mkF m 9 #[.val (.ref a), .val (.ref b)] []))
  have N1 := Fr.app N0 N1'
  refine own_ret0V (s := s) (vm1 := T2.vm) X4 hx S6 (Nat.le_refl _) hret hlk (hb hby down_i1_9) (by decide) (by decide) ?_
  exact ⟨rfl, N1, Kj, Fj, Gj⟩
theorem pn_own_i4_1 : plainFor (⟨"java/lang/String", "<init>", "([CIILjava/lang/Void;)V"⟩ : MethodName) = true := by first | exact plainFor_of_name (by first | (simp [plainName, overriddenIn]; done) | decide +kernel) | decide +kernel
theorem down_i4_27 : decode jdk_42_method_149_code 27 = .ok (.getstatic 38, 3) := by decide +kernel
theorem down_i4_30 : decode jdk_42_method_149_code 30 = .ok (.ifCond .eq 28, 3) := by decide +kernel
theorem down_i4_33 : decode jdk_42_method_149_code 33 = .ok (.aload_n 1, 1) := by decide +kernel
theorem down_i4_34 : decode jdk_42_method_149_code 34 = .ok (.iload_n 2, 1) := by decide +kernel
theorem down_i4_35 : decode jdk_42_method_149_code 35 = .ok (.iload_n 3, 1) := by decide +kernel
theorem down_i4_36 : decode jdk_42_method_149_code 36 = .ok (.invokestatic 177, 3) := by decide +kernel
theorem down_i4_39 : decode jdk_42_method_149_code 39 = .ok (.astore 5, 2) := by decide +kernel
theorem down_i4_41 : decode jdk_42_method_149_code 41 = .ok (.aload_n 0, 1) := by decide +kernel
theorem down_i4_42 : decode jdk_42_method_149_code 42 = .ok (.aload 5, 2) := by decide +kernel
theorem down_i4_44 : decode jdk_42_method_149_code 44 = .ok (.iload_n 3, 1) := by decide +kernel
theorem down_i4_45 : decode jdk_42_method_149_code 45 = .ok (.invokestatic 47, 3) := by decide +kernel
theorem down_i4_48 : decode jdk_42_method_149_code 48 = .ok (.putfield 15, 3) := by decide +kernel
theorem down_i4_51 : decode jdk_42_method_149_code 51 = .ok (.aload_n 0, 1) := by decide +kernel
theorem down_i4_52 : decode jdk_42_method_149_code 52 = .ok (.aload 5, 2) := by decide +kernel
theorem down_i4_54 : decode jdk_42_method_149_code 54 = .ok (.putfield 9, 3) := by decide +kernel
theorem down_i4_57 : decode jdk_42_method_149_code 57 = .ok (.return_, 1) := by decide +kernel
def Q_own_i4_1 (Z : State)  (a b : Addr) (fc : Nat → Int32) (cs : Int32) (h0 : Heap) (n0 : Nat) (v : Option Value) (vm : Vm) (h : Heap) (L : List Loc) : Prop := v = none ∧ Fr n0 L ∧ Keep h0 h [a] ∧ (∃ o : Addr, own_S0 Z h a (.ref o) (0 : Int32) ∧ own_AW Z h o 1 (fun i => nar .byte (fc i).toInt8.toInt32)) ∧ own_G Z h vm
set_option maxRecDepth 65536 in
set_option maxHeartbeats 40000000 in
theorem own_i4_1 (l : Launch) (Z : State) (a0 : Array Value) (hw : ∀ d ∈ tables_1, d.before a0 Z = true) (ws : List Jvm.Cond)  (a b : Addr) (fc : Nat → Int32) (cs : Int32) (h0 : Heap) (n0 : Nat) (O : own_S0 Z h0 a .null (0 : Int32)) (Fb : own_AC Z h0 b 1 fc) (hc : ∀ i, i < 1 → ¬ (255 : Int32) < fc i) (hZn : Z.heap.size ≤ n0) (ga : n0 ≤ a) (CS : Sta Z h0 "java/lang/String" "COMPACT_STRINGS" "Z" (.int cs)) (hcs : ¬ cs = (0 : Int32)) (held : Jvm.Lit.constHeld Z "java/lang/String" 7) (hcw : Jvm.Lit.compactW.before a0 Z = true) :
    MetFree l (⟨"java/lang/String", "<init>", "([CIILjava/lang/Void;)V"⟩ : MethodName) (head1 (Jvm.Cond.code (⟨"java/lang/String", "<init>", "([CIILjava/lang/Void;)V"⟩ : MethodName) jdk_42_method_149_code 6 none :: ws) ({ frames := 2, cells := 2, slots := 4, locals := 35 } : Room)) (fun aa U => aa = #[(.ref a), (.ref b), (.int (0 : Int32)), (.int (1 : Int32)), .null] ∧ Z.Warmed39 U.vm ∧ U.heap = h0 ∧ own_G Z h0 U.vm) (fun _ _ _ _ _ => True) (fun _ U o U' => own_QV (Q_own_i4_1 Z a b fc cs h0 n0) U ({ frames := 2, cells := 2, slots := 4, locals := 35 } : Room).cells ({ frames := 2, cells := 2, slots := 4, locals := 35 } : Room).slots o U') := by
  refine own_bodyV (x := (⟨"java/lang/String", "<init>", "([CIILjava/lang/Void;)V"⟩ : MethodName)) (maxL := 6) (as' := #[(.ref a), (.ref b), (.int (0 : Int32)), (.int (1 : Int32)), .null]) (Q := Q_own_i4_1 Z a b fc cs h0 n0) (G := own_G Z h0) pn_own_i4_1 #[.val (.ref a), .val (.ref b), .val (.int (0 : Int32)), .val (.int (1 : Int32)), .val .null, .unset] (fun m => by first | (simp [entryFrame, mkF, argsToLocals, Value.category]; done) | rfl) ?_
  intro p e s m below meth c T0 X0 hx hby hml hret hlk hown hnm hZ e0 hs0 hG
  replace hml : c.maxLocals = 6 := hml
  replace hown : s.vm.findClass "java/lang/String" = some m.cls := hown
  have N0 := Fr.nil n0
  have g0 : n0 ≤ h0.size := Nat.le_trans ga (Nat.le_of_lt (O).1.lt)
  refine own_st (G := T0.setTop (mkF m 1 #[.val (.ref a), .val (.ref b), .val (.int (0 : Int32)), .val (.int (1 : Int32)), .val .null, .unset] [(.ref a)])) (fun _ kk => XS.aloadN X0.here hx rfl (hb hby down_i4_0) rfl rfl kk) ?_
  obtain ⟨T1, X2, e3, st4⟩ := initO X0 hx hZ hown (own_w hw 16 rfl) (own_w hw 17 rfl) (own_w hw 18 rfl) e0 (g := (mkF m 1 #[.val (.ref a), .val (.ref b), .val (.int (0 : Int32)), .val (.int (1 : Int32)), .val .null, .unset] [(.ref a)])) rfl (by rw [hml]; rfl) rfl (hb hby down_i4_1) (by decide) (W := 0) (by show 2 * 0 + _ ≤ _; exact Nat.le_of_eq rfl) (by decide)
  refine own_st st4 ?_
  show own_Out _ _ _ _ (T1.setTop (mkF m 4 #[.val (.ref a), .val (.ref b), .val (.int (0 : Int32)), .val (.int (1 : Int32)), .val .null, .unset] []))
  refine own_st (G := T1.setTop (mkF m 5 #[.val (.ref a), .val (.ref b), .val (.int (0 : Int32)), .val (.int (1 : Int32)), .val .null, .unset] [(.int (1 : Int32))])) (fun _ kk => XS.iloadN X2.here hx rfl (hb hby down_i4_4) rfl kk) ?_
  refine own_st (G := T1.setTop (mkF m 27 #[.val (.ref a), .val (.ref b), .val (.int (0 : Int32)), .val (.int (1 : Int32)), .val .null, .unset] [])) (fun _ kk => XS.ifYes X2.here hx rfl (pc0 := 5) (pc' := 27) rfl (hb hby down_i4_5) rfl (XT.i0_ne_t (by decide : ¬ (1 : Int32) = (0 : Int32))) (by decide) (by decide) kk) ?_
  obtain ⟨T5, X6, e7, st8⟩ := getS (host := "") X2 hx hZ hown (own_w hw 64 rfl) Via.refl e3 CS (g := (mkF m 27 #[.val (.ref a), .val (.ref b), .val (.int (0 : Int32)), .val (.int (1 : Int32)), .val .null, .unset] [])) rfl (hb hby down_i4_27)
  refine own_st st8 ?_
  show own_Out _ _ _ _ (T5.setTop (mkF m 30 #[.val (.ref a), .val (.ref b), .val (.int (0 : Int32)), .val (.int (1 : Int32)), .val .null, .unset] [(.int cs)]))
  have hk9 : ¬ (cs = (0 : Int32)) := hcs
  refine own_st (G := T5.setTop (mkF m 33 #[.val (.ref a), .val (.ref b), .val (.int (0 : Int32)), .val (.int (1 : Int32)), .val .null, .unset] [])) (fun _ kk => XS.ifNo X6.here hx rfl (hb hby down_i4_30) rfl (XT.i0_eq_f hk9) kk) ?_
  refine own_st (G := T5.setTop (mkF m 34 #[.val (.ref a), .val (.ref b), .val (.int (0 : Int32)), .val (.int (1 : Int32)), .val .null, .unset] [(.ref b)])) (fun _ kk => XS.aloadN X6.here hx rfl (hb hby down_i4_33) rfl rfl kk) ?_
  refine own_st (G := T5.setTop (mkF m 35 #[.val (.ref a), .val (.ref b), .val (.int (0 : Int32)), .val (.int (1 : Int32)), .val .null, .unset] [(.int (0 : Int32)), (.ref b)])) (fun _ kk => XS.iloadN X6.here hx rfl (hb hby down_i4_34) rfl kk) ?_
  refine own_st (G := T5.setTop (mkF m 36 #[.val (.ref a), .val (.ref b), .val (.int (0 : Int32)), .val (.int (1 : Int32)), .val .null, .unset] [(.int (1 : Int32)), (.int (0 : Int32)), (.ref b)])) (fun _ kk => XS.iloadN X6.here hx rfl (hb hby down_i4_35) rfl kk) ?_
  refine own_callS X6 hx hZ (y := (⟨"java/lang/StringUTF16", "compress", "([CII)[B"⟩ : MethodName)) (as' := [(.ref b), (.int (0 : Int32)), (.int (1 : Int32))]) hown (own_w hw 69 rfl) (own_w hw 70 rfl) (own_w hw 71 rfl) (own_w hw 72 rfl) (by decide) (own_cm3_1 l Z a0 hw [] b fc h0 n0 g0 Fb hc) 0 (by decide) (by decide) (by decide) (by decide) (rest := []) (by rw [hml]; rfl) (lenOf (by decide : parseMethodDescriptor "([CII)[B" = some ⟨[.array (.char), .int, .int], some (.array (.byte))⟩) rfl) rfl (Nat.le_of_eq rfl) (hb hby down_i4_36) e7 ?_
  intro T13 L14 v16 X15 hQ
  obtain ⟨o, rfl, N10', E11, go, F12⟩ := hQ
  show own_Out _ _ _ _ (T13.setTop (mkF m 39 #[.val (.ref a), .val (.ref b), .val (.int (0 : Int32)), .val (.int (1 : Int32)), .val .null, .unset] [(.ref o)]))
  have N10 := Fr.app N0 N10'
  have Oc := own_S0_ext E11 O
  have Gc := own_G_ext E11 hG
  have Kc := Keep.refl T13.heap [a]
  refine own_st (G := T13.setTop (mkF m 41 #[.val (.ref a), .val (.ref b), .val (.int (0 : Int32)), .val (.int (1 : Int32)), .val .null, .val (.ref o)] [])) (fun _ kk => XS.astore X15.here hx rfl (hb hby down_i4_39) rfl rfl (l' := #[.val (.ref a), .val (.ref b), .val (.int (0 : Int32)), .val (.int (1 : Int32)), .val .null, .val (.ref o)]) rfl kk) ?_
  refine own_st (G := T13.setTop (mkF m 42 #[.val (.ref a), .val (.ref b), .val (.int (0 : Int32)), .val (.int (1 : Int32)), .val .null, .val (.ref o)] [(.ref a)])) (fun _ kk => XS.aloadN X15.here hx rfl (hb hby down_i4_41) rfl rfl kk) ?_
  refine own_st (G := T13.setTop (mkF m 44 #[.val (.ref a), .val (.ref b), .val (.int (0 : Int32)), .val (.int (1 : Int32)), .val .null, .val (.ref o)] [(.ref o), (.ref a)])) (fun _ kk => XS.aload X15.here hx rfl (hb hby down_i4_42) rfl rfl kk) ?_
  refine own_st (G := T13.setTop (mkF m 45 #[.val (.ref a), .val (.ref b), .val (.int (0 : Int32)), .val (.int (1 : Int32)), .val .null, .val (.ref o)] [(.int (1 : Int32)), (.ref o), (.ref a)])) (fun _ kk => XS.iloadN X15.here hx rfl (hb hby down_i4_44) rfl kk) ?_
  refine own_callS X15 hx hZ (y := (⟨"java/lang/StringUTF16", "coderFromArrayLen", "([BI)B"⟩ : MethodName)) (as' := [(.ref o), (.int (1 : Int32))]) hown (own_w hw 76 rfl) (own_w hw 77 rfl) (own_w hw 71 rfl) (own_w hw 78 rfl) (by decide) (own_cod_1 l Z a0 hw [] o (fun i => nar .byte (fc i).toInt8.toInt32) T13.heap n0 F12) 1 (by decide) (by decide) (by decide) (by decide) (rest := [(.ref a)]) (by rw [hml]; rfl) (lenOf (by decide : parseMethodDescriptor "([BI)B" = some ⟨[.array (.byte), .int], some (.byte)⟩) rfl) rfl (Nat.le_of_eq rfl) (hb hby down_i4_45) rfl ?_
  intro T19 L20 v22 X21 hQ
  obtain ⟨rfl, rfl, eq17⟩ := hQ
  show own_Out _ _ _ _ (T19.setTop (mkF m 48 #[.val (.ref a), .val (.ref b), .val (.int (0 : Int32)), .val (.int (1 : Int32)), .val .null, .val (.ref o)] [(.int (0 : Int32)), (.ref a)]))
  have N18 := Fr.app N10 (Fr.nil n0)
  obtain ⟨T23, h24, X25, e26, W27, st28⟩ := putFN X21 hx hZ hown (own_w hw 26 rfl) Via.refl eq17 (Oc).2.2 (Oc).1 (Or.inr ⟨(own_w hw 22 rfl), rfl, hnm⟩) (own_w hw 6 rfl) (ty := .byte) (v' := .int (nar .byte (0 : Int32))) (by decide) rfl (fits_nar_byte _) (g := (mkF m 48 #[.val (.ref a), .val (.ref b), .val (.int (0 : Int32)), .val (.int (1 : Int32)), .val .null, .val (.ref o)] [(.int (0 : Int32)), (.ref a)])) rfl rfl (hb hby down_i4_48)
  refine own_st st28 ?_
  show own_Out _ _ _ _ (T23.setTop (mkF m 51 #[.val (.ref a), .val (.ref b), .val (.int (0 : Int32)), .val (.int (1 : Int32)), .val .null, .val (.ref o)] []))
  have O29 : own_S0 Z h24 a .null (0 : Int32) := own_S0_coder hw W27 Oc
  have N30 := Fr.snoc X25 N18 ga
  have K31 := Kc.wr W27 (Or.inl (List.mem_singleton.mpr rfl))
  refine own_st (G := T23.setTop (mkF m 52 #[.val (.ref a), .val (.ref b), .val (.int (0 : Int32)), .val (.int (1 : Int32)), .val .null, .val (.ref o)] [(.ref a)])) (fun _ kk => XS.aloadN X25.here hx rfl (hb hby down_i4_51) rfl rfl kk) ?_
  refine own_st (G := T23.setTop (mkF m 54 #[.val (.ref a), .val (.ref b), .val (.int (0 : Int32)), .val (.int (1 : Int32)), .val .null, .val (.ref o)] [(.ref o), (.ref a)])) (fun _ kk => XS.aload X25.here hx rfl (hb hby down_i4_52) rfl rfl kk) ?_
  obtain ⟨T32, h33, X34, e35, W36, st37⟩ := putF X25 hx hZ hown (host := "") (Or.inl (own_w hw 25 rfl)) Via.refl e26 (O29).2.1 (O29).1 (Or.inr ⟨(own_w hw 21 rfl), rfl, hnm⟩) (own_w hw 6 rfl) (ty := .array (.byte)) (by decide) rfl rfl (g := (mkF m 54 #[.val (.ref a), .val (.ref b), .val (.int (0 : Int32)), .val (.int (1 : Int32)), .val .null, .val (.ref o)] [(.ref o), (.ref a)])) rfl rfl (hb hby down_i4_54)
  refine own_st st37 ?_
  show own_Out _ _ _ _ (T32.setTop (mkF m 57 #[.val (.ref a), .val (.ref b), .val (.int (0 : Int32)), .val (.int (1 : Int32)), .val .null, .val (.ref o)] []))
  have O38 : own_S0 Z h33 a (.ref o) (0 : Int32) := own_S0_value hw W36 O29
  have N39 := Fr.snoc X34 N30 ga
  have K40 := K31.wr W36 (Or.inl (List.mem_singleton.mpr rfl))
  refine own_ret0V (s := s) (vm1 := s.vm) X34 hx ((State.WarmedH.refl s).since 0) (Nat.zero_le _) hret hlk (hb hby down_i4_57) (by decide) (by decide) ?_
  rw [e35]
  have Gn := own_G_keep (own_w hw 6 rfl) (Nat.le_trans hZn ga) (Oc).1 (Oc).2.1 K40 Gc
  exact ⟨rfl, N39, ((Keep.refl h0 [a]).ext E11).trans K40 (fun x hx => Or.inl hx), ⟨o, O38, own_AW_keep (own_AW_of F12) K40 (fun z => (Nat.ne_of_gt (Nat.lt_of_lt_of_le (O).1.lt go)) (List.mem_singleton.mp z))⟩, own_G_warm (s := s) (vm0 := s.vm) X34.warmed Gn⟩
theorem pn_own_i1_1 : plainFor (⟨"java/lang/String", "<init>", "([C)V"⟩ : MethodName) = true := by first | exact plainFor_of_name (by first | (simp [plainName, overriddenIn]; done) | decide +kernel) | decide +kernel
def Q_own_i1_1 (Z : State)  (a b : Addr) (fc : Nat → Int32) (cs : Int32) (h0 : Heap) (n0 : Nat) (v : Option Value) (vm : Vm) (h : Heap) (L : List Loc) : Prop := v = none ∧ Fr n0 L ∧ Keep h0 h [a] ∧ (∃ o : Addr, own_S0 Z h a (.ref o) (0 : Int32) ∧ own_AW Z h o 1 (fun i => nar .byte (fc i).toInt8.toInt32)) ∧ own_G Z h vm
set_option maxRecDepth 65536 in
set_option maxHeartbeats 40000000 in
theorem own_i1_1 (l : Launch) (Z : State) (a0 : Array Value) (hw : ∀ d ∈ tables_1, d.before a0 Z = true) (ws : List Jvm.Cond)  (a b : Addr) (fc : Nat → Int32) (cs : Int32) (h0 : Heap) (n0 : Nat) (O : own_S0 Z h0 a .null (0 : Int32)) (Fb : own_AC Z h0 b 1 fc) (hc : ∀ i, i < 1 → ¬ (255 : Int32) < fc i) (hZn : Z.heap.size ≤ n0) (ga : n0 ≤ a) (CS : Sta Z h0 "java/lang/String" "COMPACT_STRINGS" "Z" (.int cs)) (hcs : ¬ cs = (0 : Int32)) (held : Jvm.Lit.constHeld Z "java/lang/String" 7) (hcw : Jvm.Lit.compactW.before a0 Z = true) :
    MetFree l (⟨"java/lang/String", "<init>", "([C)V"⟩ : MethodName) (head1 (Jvm.Cond.code (⟨"java/lang/String", "<init>", "([C)V"⟩ : MethodName) jdk_42_method_3_code 2 none :: ws) ({ frames := 3, cells := 2, slots := 4, locals := 52 } : Room)) (fun aa U => aa = #[(.ref a), (.ref b)] ∧ Z.Warmed39 U.vm ∧ U.heap = h0 ∧ own_G Z h0 U.vm) (fun _ _ _ _ _ => True) (fun _ U o U' => own_QV (Q_own_i1_1 Z a b fc cs h0 n0) U ({ frames := 3, cells := 2, slots := 4, locals := 52 } : Room).cells ({ frames := 3, cells := 2, slots := 4, locals := 52 } : Room).slots o U') := by
  refine own_bodyV (x := (⟨"java/lang/String", "<init>", "([C)V"⟩ : MethodName)) (maxL := 2) (as' := #[(.ref a), (.ref b)]) (Q := Q_own_i1_1 Z a b fc cs h0 n0) (G := own_G Z h0) pn_own_i1_1 #[.val (.ref a), .val (.ref b)] (fun m => by first | (simp [entryFrame, mkF, argsToLocals, Value.category]; done) | rfl) ?_
  intro p e s m below meth c T0 X0 hx hby hml hret hlk hown hnm hZ e0 hs0 hG
  replace hml : c.maxLocals = 2 := hml
  replace hown : s.vm.findClass "java/lang/String" = some m.cls := hown
  have N0 := Fr.nil n0
  refine own_st (G := T0.setTop (mkF m 1 #[.val (.ref a), .val (.ref b)] [(.ref a)])) (fun _ kk => XS.aloadN X0.here hx rfl (hb hby down_i1_0) rfl rfl kk) ?_
  refine own_st (G := T0.setTop (mkF m 2 #[.val (.ref a), .val (.ref b)] [(.ref b), (.ref a)])) (fun _ kk => XS.aloadN X0.here hx rfl (hb hby down_i1_1) rfl rfl kk) ?_
  refine own_st (G := T0.setTop (mkF m 3 #[.val (.ref a), .val (.ref b)] [(.int (0 : Int32)), (.ref b), (.ref a)])) (fun _ kk => XT.iconstV X0.here hx rfl (0 : Int32) (hb hby down_i1_2) (by decide) kk) ?_
  refine own_st (G := T0.setTop (mkF m 4 #[.val (.ref a), .val (.ref b)] [(.ref b), (.int (0 : Int32)), (.ref b), (.ref a)])) (fun _ kk => XS.aloadN X0.here hx rfl (hb hby down_i1_3) rfl rfl kk) ?_
  refine own_lenC X0 hx hZ e0 Fb (z := (1 : Int32)) rfl (hb hby down_i1_4) ?_
  show own_Out _ _ _ _ (T0.setTop (mkF m 5 #[.val (.ref a), .val (.ref b)] [(.int (1 : Int32)), (.int (0 : Int32)), (.ref b), (.ref a)]))
  refine own_st (G := T0.setTop (mkF m 6 #[.val (.ref a), .val (.ref b)] [.null, (.int (1 : Int32)), (.int (0 : Int32)), (.ref b), (.ref a)])) (fun _ kk => XS.aconstNull X0.here hx rfl (hb hby down_i1_5) kk) ?_
  refine own_callIW (s := s) (vm0 := s.vm) X0 hx ((State.WarmedH.refl s).since 0) (Nat.zero_le _) hZ (y := (⟨"java/lang/String", "<init>", "([CIILjava/lang/Void;)V"⟩ : MethodName)) (b := a) (as' := [(.ref b), (.int (0 : Int32)), (.int (1 : Int32)), .null]) rfl hown (own_w hw 12 rfl) (own_w hw 13 rfl) (own_w hw 15 rfl) (own_w hw 7 rfl) (by decide) (own_i4_1 l Z a0 hw [] a b fc cs h0 n0 O Fb hc hZn ga CS hcs held hcw) (fun vm₁ ww => own_G_warm (s := s) (vm0 := s.vm) ww hG) 0 (by decide) (by decide) (by decide) (by decide) (rest := []) (by rw [hml]; rfl) (lenOf (by decide : parseMethodDescriptor "([CIILjava/lang/Void;)V" = some ⟨[.array (.char), .int, .int, .object "java/lang/Void"], none⟩) rfl) rfl (Nat.le_of_eq rfl) (hb hby down_i1_6) e0 ?_
  intro T2 L3 v5 X4 S6 hZ7 hown8 hQ
  replace hZ := hZ7
  replace hown := hown8
  obtain ⟨rfl, N1', Kj, Fj, Gj⟩ := hQ
  show own_Out _ _ _ _ (T2.setTop (mkF m 9 #[.val (.ref a), .val (.ref b)] []))
  have N1 := Fr.app N0 N1'
  refine own_ret0V (s := s) (vm1 := T2.vm) X4 hx S6 (Nat.le_refl _) hret hlk (hb hby down_i1_9) (by decide) (by decide) ?_
  exact ⟨rfl, N1, Kj, Fj, Gj⟩
theorem pn_own_i4_2 : plainFor (⟨"java/lang/String", "<init>", "([CIILjava/lang/Void;)V"⟩ : MethodName) = true := by first | exact plainFor_of_name (by first | (simp [plainName, overriddenIn]; done) | decide +kernel) | decide +kernel
def Q_own_i4_2 (Z : State)  (a b : Addr) (fc : Nat → Int32) (cs : Int32) (h0 : Heap) (n0 : Nat) (v : Option Value) (vm : Vm) (h : Heap) (L : List Loc) : Prop := v = none ∧ Fr n0 L ∧ Keep h0 h [a] ∧ (∃ o : Addr, own_S0 Z h a (.ref o) (0 : Int32) ∧ own_AW Z h o 2 (fun i => nar .byte (fc i).toInt8.toInt32)) ∧ own_G Z h vm
set_option maxRecDepth 65536 in
set_option maxHeartbeats 40000000 in
theorem own_i4_2 (l : Launch) (Z : State) (a0 : Array Value) (hw : ∀ d ∈ tables_1, d.before a0 Z = true) (ws : List Jvm.Cond)  (a b : Addr) (fc : Nat → Int32) (cs : Int32) (h0 : Heap) (n0 : Nat) (O : own_S0 Z h0 a .null (0 : Int32)) (Fb : own_AC Z h0 b 2 fc) (hc : ∀ i, i < 2 → ¬ (255 : Int32) < fc i) (hZn : Z.heap.size ≤ n0) (ga : n0 ≤ a) (CS : Sta Z h0 "java/lang/String" "COMPACT_STRINGS" "Z" (.int cs)) (hcs : ¬ cs = (0 : Int32)) (held : Jvm.Lit.constHeld Z "java/lang/String" 7) (hcw : Jvm.Lit.compactW.before a0 Z = true) :
    MetFree l (⟨"java/lang/String", "<init>", "([CIILjava/lang/Void;)V"⟩ : MethodName) (head1 (Jvm.Cond.code (⟨"java/lang/String", "<init>", "([CIILjava/lang/Void;)V"⟩ : MethodName) jdk_42_method_149_code 6 none :: ws) ({ frames := 2, cells := 2, slots := 4, locals := 35 } : Room)) (fun aa U => aa = #[(.ref a), (.ref b), (.int (0 : Int32)), (.int (2 : Int32)), .null] ∧ Z.Warmed39 U.vm ∧ U.heap = h0 ∧ own_G Z h0 U.vm) (fun _ _ _ _ _ => True) (fun _ U o U' => own_QV (Q_own_i4_2 Z a b fc cs h0 n0) U ({ frames := 2, cells := 2, slots := 4, locals := 35 } : Room).cells ({ frames := 2, cells := 2, slots := 4, locals := 35 } : Room).slots o U') := by
  refine own_bodyV (x := (⟨"java/lang/String", "<init>", "([CIILjava/lang/Void;)V"⟩ : MethodName)) (maxL := 6) (as' := #[(.ref a), (.ref b), (.int (0 : Int32)), (.int (2 : Int32)), .null]) (Q := Q_own_i4_2 Z a b fc cs h0 n0) (G := own_G Z h0) pn_own_i4_2 #[.val (.ref a), .val (.ref b), .val (.int (0 : Int32)), .val (.int (2 : Int32)), .val .null, .unset] (fun m => by first | (simp [entryFrame, mkF, argsToLocals, Value.category]; done) | rfl) ?_
  intro p e s m below meth c T0 X0 hx hby hml hret hlk hown hnm hZ e0 hs0 hG
  replace hml : c.maxLocals = 6 := hml
  replace hown : s.vm.findClass "java/lang/String" = some m.cls := hown
  have N0 := Fr.nil n0
  have g0 : n0 ≤ h0.size := Nat.le_trans ga (Nat.le_of_lt (O).1.lt)
  refine own_st (G := T0.setTop (mkF m 1 #[.val (.ref a), .val (.ref b), .val (.int (0 : Int32)), .val (.int (2 : Int32)), .val .null, .unset] [(.ref a)])) (fun _ kk => XS.aloadN X0.here hx rfl (hb hby down_i4_0) rfl rfl kk) ?_
  obtain ⟨T1, X2, e3, st4⟩ := initO X0 hx hZ hown (own_w hw 16 rfl) (own_w hw 17 rfl) (own_w hw 18 rfl) e0 (g := (mkF m 1 #[.val (.ref a), .val (.ref b), .val (.int (0 : Int32)), .val (.int (2 : Int32)), .val .null, .unset] [(.ref a)])) rfl (by rw [hml]; rfl) rfl (hb hby down_i4_1) (by decide) (W := 0) (by show 2 * 0 + _ ≤ _; exact Nat.le_of_eq rfl) (by decide)
  refine own_st st4 ?_
  show own_Out _ _ _ _ (T1.setTop (mkF m 4 #[.val (.ref a), .val (.ref b), .val (.int (0 : Int32)), .val (.int (2 : Int32)), .val .null, .unset] []))
  refine own_st (G := T1.setTop (mkF m 5 #[.val (.ref a), .val (.ref b), .val (.int (0 : Int32)), .val (.int (2 : Int32)), .val .null, .unset] [(.int (2 : Int32))])) (fun _ kk => XS.iloadN X2.here hx rfl (hb hby down_i4_4) rfl kk) ?_
  refine own_st (G := T1.setTop (mkF m 27 #[.val (.ref a), .val (.ref b), .val (.int (0 : Int32)), .val (.int (2 : Int32)), .val .null, .unset] [])) (fun _ kk => XS.ifYes X2.here hx rfl (pc0 := 5) (pc' := 27) rfl (hb hby down_i4_5) rfl (XT.i0_ne_t (by decide : ¬ (2 : Int32) = (0 : Int32))) (by decide) (by decide) kk) ?_
  obtain ⟨T5, X6, e7, st8⟩ := getS (host := "") X2 hx hZ hown (own_w hw 64 rfl) Via.refl e3 CS (g := (mkF m 27 #[.val (.ref a), .val (.ref b), .val (.int (0 : Int32)), .val (.int (2 : Int32)), .val .null, .unset] [])) rfl (hb hby down_i4_27)
  refine own_st st8 ?_
  show own_Out _ _ _ _ (T5.setTop (mkF m 30 #[.val (.ref a), .val (.ref b), .val (.int (0 : Int32)), .val (.int (2 : Int32)), .val .null, .unset] [(.int cs)]))
  have hk9 : ¬ (cs = (0 : Int32)) := hcs
  refine own_st (G := T5.setTop (mkF m 33 #[.val (.ref a), .val (.ref b), .val (.int (0 : Int32)), .val (.int (2 : Int32)), .val .null, .unset] [])) (fun _ kk => XS.ifNo X6.here hx rfl (hb hby down_i4_30) rfl (XT.i0_eq_f hk9) kk) ?_
  refine own_st (G := T5.setTop (mkF m 34 #[.val (.ref a), .val (.ref b), .val (.int (0 : Int32)), .val (.int (2 : Int32)), .val .null, .unset] [(.ref b)])) (fun _ kk => XS.aloadN X6.here hx rfl (hb hby down_i4_33) rfl rfl kk) ?_
  refine own_st (G := T5.setTop (mkF m 35 #[.val (.ref a), .val (.ref b), .val (.int (0 : Int32)), .val (.int (2 : Int32)), .val .null, .unset] [(.int (0 : Int32)), (.ref b)])) (fun _ kk => XS.iloadN X6.here hx rfl (hb hby down_i4_34) rfl kk) ?_
  refine own_st (G := T5.setTop (mkF m 36 #[.val (.ref a), .val (.ref b), .val (.int (0 : Int32)), .val (.int (2 : Int32)), .val .null, .unset] [(.int (2 : Int32)), (.int (0 : Int32)), (.ref b)])) (fun _ kk => XS.iloadN X6.here hx rfl (hb hby down_i4_35) rfl kk) ?_
  refine own_callS X6 hx hZ (y := (⟨"java/lang/StringUTF16", "compress", "([CII)[B"⟩ : MethodName)) (as' := [(.ref b), (.int (0 : Int32)), (.int (2 : Int32))]) hown (own_w hw 69 rfl) (own_w hw 70 rfl) (own_w hw 71 rfl) (own_w hw 72 rfl) (by decide) (own_cm3_2 l Z a0 hw [] b fc h0 n0 g0 Fb hc) 0 (by decide) (by decide) (by decide) (by decide) (rest := []) (by rw [hml]; rfl) (lenOf (by decide : parseMethodDescriptor "([CII)[B" = some ⟨[.array (.char), .int, .int], some (.array (.byte))⟩) rfl) rfl (Nat.le_of_eq rfl) (hb hby down_i4_36) e7 ?_
  intro T13 L14 v16 X15 hQ
  obtain ⟨o, rfl, N10', E11, go, F12⟩ := hQ
  show own_Out _ _ _ _ (T13.setTop (mkF m 39 #[.val (.ref a), .val (.ref b), .val (.int (0 : Int32)), .val (.int (2 : Int32)), .val .null, .unset] [(.ref o)]))
  have N10 := Fr.app N0 N10'
  have Oc := own_S0_ext E11 O
  have Gc := own_G_ext E11 hG
  have Kc := Keep.refl T13.heap [a]
  refine own_st (G := T13.setTop (mkF m 41 #[.val (.ref a), .val (.ref b), .val (.int (0 : Int32)), .val (.int (2 : Int32)), .val .null, .val (.ref o)] [])) (fun _ kk => XS.astore X15.here hx rfl (hb hby down_i4_39) rfl rfl (l' := #[.val (.ref a), .val (.ref b), .val (.int (0 : Int32)), .val (.int (2 : Int32)), .val .null, .val (.ref o)]) rfl kk) ?_
  refine own_st (G := T13.setTop (mkF m 42 #[.val (.ref a), .val (.ref b), .val (.int (0 : Int32)), .val (.int (2 : Int32)), .val .null, .val (.ref o)] [(.ref a)])) (fun _ kk => XS.aloadN X15.here hx rfl (hb hby down_i4_41) rfl rfl kk) ?_
  refine own_st (G := T13.setTop (mkF m 44 #[.val (.ref a), .val (.ref b), .val (.int (0 : Int32)), .val (.int (2 : Int32)), .val .null, .val (.ref o)] [(.ref o), (.ref a)])) (fun _ kk => XS.aload X15.here hx rfl (hb hby down_i4_42) rfl rfl kk) ?_
  refine own_st (G := T13.setTop (mkF m 45 #[.val (.ref a), .val (.ref b), .val (.int (0 : Int32)), .val (.int (2 : Int32)), .val .null, .val (.ref o)] [(.int (2 : Int32)), (.ref o), (.ref a)])) (fun _ kk => XS.iloadN X15.here hx rfl (hb hby down_i4_44) rfl kk) ?_
  refine own_callS X15 hx hZ (y := (⟨"java/lang/StringUTF16", "coderFromArrayLen", "([BI)B"⟩ : MethodName)) (as' := [(.ref o), (.int (2 : Int32))]) hown (own_w hw 76 rfl) (own_w hw 77 rfl) (own_w hw 71 rfl) (own_w hw 78 rfl) (by decide) (own_cod_2 l Z a0 hw [] o (fun i => nar .byte (fc i).toInt8.toInt32) T13.heap n0 F12) 1 (by decide) (by decide) (by decide) (by decide) (rest := [(.ref a)]) (by rw [hml]; rfl) (lenOf (by decide : parseMethodDescriptor "([BI)B" = some ⟨[.array (.byte), .int], some (.byte)⟩) rfl) rfl (Nat.le_of_eq rfl) (hb hby down_i4_45) rfl ?_
  intro T19 L20 v22 X21 hQ
  obtain ⟨rfl, rfl, eq17⟩ := hQ
  show own_Out _ _ _ _ (T19.setTop (mkF m 48 #[.val (.ref a), .val (.ref b), .val (.int (0 : Int32)), .val (.int (2 : Int32)), .val .null, .val (.ref o)] [(.int (0 : Int32)), (.ref a)]))
  have N18 := Fr.app N10 (Fr.nil n0)
  obtain ⟨T23, h24, X25, e26, W27, st28⟩ := putFN X21 hx hZ hown (own_w hw 26 rfl) Via.refl eq17 (Oc).2.2 (Oc).1 (Or.inr ⟨(own_w hw 22 rfl), rfl, hnm⟩) (own_w hw 6 rfl) (ty := .byte) (v' := .int (nar .byte (0 : Int32))) (by decide) rfl (fits_nar_byte _) (g := (mkF m 48 #[.val (.ref a), .val (.ref b), .val (.int (0 : Int32)), .val (.int (2 : Int32)), .val .null, .val (.ref o)] [(.int (0 : Int32)), (.ref a)])) rfl rfl (hb hby down_i4_48)
  refine own_st st28 ?_
  show own_Out _ _ _ _ (T23.setTop (mkF m 51 #[.val (.ref a), .val (.ref b), .val (.int (0 : Int32)), .val (.int (2 : Int32)), .val .null, .val (.ref o)] []))
  have O29 : own_S0 Z h24 a .null (0 : Int32) := own_S0_coder hw W27 Oc
  have N30 := Fr.snoc X25 N18 ga
  have K31 := Kc.wr W27 (Or.inl (List.mem_singleton.mpr rfl))
  refine own_st (G := T23.setTop (mkF m 52 #[.val (.ref a), .val (.ref b), .val (.int (0 : Int32)), .val (.int (2 : Int32)), .val .null, .val (.ref o)] [(.ref a)])) (fun _ kk => XS.aloadN X25.here hx rfl (hb hby down_i4_51) rfl rfl kk) ?_
  refine own_st (G := T23.setTop (mkF m 54 #[.val (.ref a), .val (.ref b), .val (.int (0 : Int32)), .val (.int (2 : Int32)), .val .null, .val (.ref o)] [(.ref o), (.ref a)])) (fun _ kk => XS.aload X25.here hx rfl (hb hby down_i4_52) rfl rfl kk) ?_
  obtain ⟨T32, h33, X34, e35, W36, st37⟩ := putF X25 hx hZ hown (host := "") (Or.inl (own_w hw 25 rfl)) Via.refl e26 (O29).2.1 (O29).1 (Or.inr ⟨(own_w hw 21 rfl), rfl, hnm⟩) (own_w hw 6 rfl) (ty := .array (.byte)) (by decide) rfl rfl (g := (mkF m 54 #[.val (.ref a), .val (.ref b), .val (.int (0 : Int32)), .val (.int (2 : Int32)), .val .null, .val (.ref o)] [(.ref o), (.ref a)])) rfl rfl (hb hby down_i4_54)
  refine own_st st37 ?_
  show own_Out _ _ _ _ (T32.setTop (mkF m 57 #[.val (.ref a), .val (.ref b), .val (.int (0 : Int32)), .val (.int (2 : Int32)), .val .null, .val (.ref o)] []))
  have O38 : own_S0 Z h33 a (.ref o) (0 : Int32) := own_S0_value hw W36 O29
  have N39 := Fr.snoc X34 N30 ga
  have K40 := K31.wr W36 (Or.inl (List.mem_singleton.mpr rfl))
  refine own_ret0V (s := s) (vm1 := s.vm) X34 hx ((State.WarmedH.refl s).since 0) (Nat.zero_le _) hret hlk (hb hby down_i4_57) (by decide) (by decide) ?_
  rw [e35]
  have Gn := own_G_keep (own_w hw 6 rfl) (Nat.le_trans hZn ga) (Oc).1 (Oc).2.1 K40 Gc
  exact ⟨rfl, N39, ((Keep.refl h0 [a]).ext E11).trans K40 (fun x hx => Or.inl hx), ⟨o, O38, own_AW_keep (own_AW_of F12) K40 (fun z => (Nat.ne_of_gt (Nat.lt_of_lt_of_le (O).1.lt go)) (List.mem_singleton.mp z))⟩, own_G_warm (s := s) (vm0 := s.vm) X34.warmed Gn⟩
theorem pn_own_i1_2 : plainFor (⟨"java/lang/String", "<init>", "([C)V"⟩ : MethodName) = true := by first | exact plainFor_of_name (by first | (simp [plainName, overriddenIn]; done) | decide +kernel) | decide +kernel
def Q_own_i1_2 (Z : State)  (a b : Addr) (fc : Nat → Int32) (cs : Int32) (h0 : Heap) (n0 : Nat) (v : Option Value) (vm : Vm) (h : Heap) (L : List Loc) : Prop := v = none ∧ Fr n0 L ∧ Keep h0 h [a] ∧ (∃ o : Addr, own_S0 Z h a (.ref o) (0 : Int32) ∧ own_AW Z h o 2 (fun i => nar .byte (fc i).toInt8.toInt32)) ∧ own_G Z h vm
set_option maxRecDepth 65536 in
set_option maxHeartbeats 40000000 in
theorem own_i1_2 (l : Launch) (Z : State) (a0 : Array Value) (hw : ∀ d ∈ tables_1, d.before a0 Z = true) (ws : List Jvm.Cond)  (a b : Addr) (fc : Nat → Int32) (cs : Int32) (h0 : Heap) (n0 : Nat) (O : own_S0 Z h0 a .null (0 : Int32)) (Fb : own_AC Z h0 b 2 fc) (hc : ∀ i, i < 2 → ¬ (255 : Int32) < fc i) (hZn : Z.heap.size ≤ n0) (ga : n0 ≤ a) (CS : Sta Z h0 "java/lang/String" "COMPACT_STRINGS" "Z" (.int cs)) (hcs : ¬ cs = (0 : Int32)) (held : Jvm.Lit.constHeld Z "java/lang/String" 7) (hcw : Jvm.Lit.compactW.before a0 Z = true) :
    MetFree l (⟨"java/lang/String", "<init>", "([C)V"⟩ : MethodName) (head1 (Jvm.Cond.code (⟨"java/lang/String", "<init>", "([C)V"⟩ : MethodName) jdk_42_method_3_code 2 none :: ws) ({ frames := 3, cells := 2, slots := 4, locals := 52 } : Room)) (fun aa U => aa = #[(.ref a), (.ref b)] ∧ Z.Warmed39 U.vm ∧ U.heap = h0 ∧ own_G Z h0 U.vm) (fun _ _ _ _ _ => True) (fun _ U o U' => own_QV (Q_own_i1_2 Z a b fc cs h0 n0) U ({ frames := 3, cells := 2, slots := 4, locals := 52 } : Room).cells ({ frames := 3, cells := 2, slots := 4, locals := 52 } : Room).slots o U') := by
  refine own_bodyV (x := (⟨"java/lang/String", "<init>", "([C)V"⟩ : MethodName)) (maxL := 2) (as' := #[(.ref a), (.ref b)]) (Q := Q_own_i1_2 Z a b fc cs h0 n0) (G := own_G Z h0) pn_own_i1_2 #[.val (.ref a), .val (.ref b)] (fun m => by first | (simp [entryFrame, mkF, argsToLocals, Value.category]; done) | rfl) ?_
  intro p e s m below meth c T0 X0 hx hby hml hret hlk hown hnm hZ e0 hs0 hG
  replace hml : c.maxLocals = 2 := hml
  replace hown : s.vm.findClass "java/lang/String" = some m.cls := hown
  have N0 := Fr.nil n0
  refine own_st (G := T0.setTop (mkF m 1 #[.val (.ref a), .val (.ref b)] [(.ref a)])) (fun _ kk => XS.aloadN X0.here hx rfl (hb hby down_i1_0) rfl rfl kk) ?_
  refine own_st (G := T0.setTop (mkF m 2 #[.val (.ref a), .val (.ref b)] [(.ref b), (.ref a)])) (fun _ kk => XS.aloadN X0.here hx rfl (hb hby down_i1_1) rfl rfl kk) ?_
  refine own_st (G := T0.setTop (mkF m 3 #[.val (.ref a), .val (.ref b)] [(.int (0 : Int32)), (.ref b), (.ref a)])) (fun _ kk => XT.iconstV X0.here hx rfl (0 : Int32) (hb hby down_i1_2) (by decide) kk) ?_
  refine own_st (G := T0.setTop (mkF m 4 #[.val (.ref a), .val (.ref b)] [(.ref b), (.int (0 : Int32)), (.ref b), (.ref a)])) (fun _ kk => XS.aloadN X0.here hx rfl (hb hby down_i1_3) rfl rfl kk) ?_
  refine own_lenC X0 hx hZ e0 Fb (z := (2 : Int32)) rfl (hb hby down_i1_4) ?_
  show own_Out _ _ _ _ (T0.setTop (mkF m 5 #[.val (.ref a), .val (.ref b)] [(.int (2 : Int32)), (.int (0 : Int32)), (.ref b), (.ref a)]))
  refine own_st (G := T0.setTop (mkF m 6 #[.val (.ref a), .val (.ref b)] [.null, (.int (2 : Int32)), (.int (0 : Int32)), (.ref b), (.ref a)])) (fun _ kk => XS.aconstNull X0.here hx rfl (hb hby down_i1_5) kk) ?_
  refine own_callIW (s := s) (vm0 := s.vm) X0 hx ((State.WarmedH.refl s).since 0) (Nat.zero_le _) hZ (y := (⟨"java/lang/String", "<init>", "([CIILjava/lang/Void;)V"⟩ : MethodName)) (b := a) (as' := [(.ref b), (.int (0 : Int32)), (.int (2 : Int32)), .null]) rfl hown (own_w hw 12 rfl) (own_w hw 13 rfl) (own_w hw 15 rfl) (own_w hw 7 rfl) (by decide) (own_i4_2 l Z a0 hw [] a b fc cs h0 n0 O Fb hc hZn ga CS hcs held hcw) (fun vm₁ ww => own_G_warm (s := s) (vm0 := s.vm) ww hG) 0 (by decide) (by decide) (by decide) (by decide) (rest := []) (by rw [hml]; rfl) (lenOf (by decide : parseMethodDescriptor "([CIILjava/lang/Void;)V" = some ⟨[.array (.char), .int, .int, .object "java/lang/Void"], none⟩) rfl) rfl (Nat.le_of_eq rfl) (hb hby down_i1_6) e0 ?_
  intro T2 L3 v5 X4 S6 hZ7 hown8 hQ
  replace hZ := hZ7
  replace hown := hown8
  obtain ⟨rfl, N1', Kj, Fj, Gj⟩ := hQ
  show own_Out _ _ _ _ (T2.setTop (mkF m 9 #[.val (.ref a), .val (.ref b)] []))
  have N1 := Fr.app N0 N1'
  refine own_ret0V (s := s) (vm1 := T2.vm) X4 hx S6 (Nat.le_refl _) hret hlk (hb hby down_i1_9) (by decide) (by decide) ?_
  exact ⟨rfl, N1, Kj, Fj, Gj⟩
def own_by (x : Int32) : Int32 := nar .byte (nar .char x).toInt8.toInt32
def own_sf (x y : Int32) (i : Nat) : Int32 := own_by (if i = 0 then x else y)
def own_Qstr (Z : State) (nn : Nat) (x y : Int32) (h0 : Heap) (n0 : Nat) (v : Option Value) (vm : Vm) (h : Heap) (L : List Loc) : Prop := ∃ a : Nat, v = some (.ref a) ∧ Fr n0 L ∧ Ext h0 h ∧ h0.size ≤ a ∧ (∃ o : Addr, own_S0 Z h a (.ref o) (0 : Int32) ∧ own_AW Z h o nn (own_sf x y)) ∧ own_G Z h vm
theorem own_etr {h h1 h2 : Heap} (E : Ext h h1) (F : Ext h1 h2) : Ext h h2 := ⟨Nat.le_trans E.1 F.1, fun x c q => F.2 x c (E.2 x c q)⟩
theorem pn_own_str_0 : plainFor (⟨"com/example/libbuchi/libbuchi/formats/TokenIsPinLaw", "str", "(ICC)Ljava/lang/String;"⟩ : MethodName) = true := by first | exact plainFor_of_name (by first | (simp [plainName, overriddenIn]; done) | decide +kernel) | decide +kernel
theorem down_str_0 : decode method_3_code 0 = .ok (.iload_n 0, 1) := by decide +kernel
theorem down_str_1 : decode method_3_code 1 = .ok (.ifCond .ne 14, 3) := by decide +kernel
theorem down_str_4 : decode method_3_code 4 = .ok (.new 34, 3) := by decide +kernel
theorem down_str_7 : decode method_3_code 7 = .ok (.dup, 1) := by decide +kernel
theorem down_str_8 : decode method_3_code 8 = .ok (.iconst 0, 1) := by decide +kernel
theorem down_str_9 : decode method_3_code 9 = .ok (.newarray .char, 2) := by decide +kernel
theorem down_str_11 : decode method_3_code 11 = .ok (.invokespecial 36, 3) := by decide +kernel
theorem down_str_14 : decode method_3_code 14 = .ok (.areturn, 1) := by decide +kernel
def Q_own_str_0 (Z : State) (x : Int32) (y : Int32) (cs : Int32) (h0 : Heap) (n0 : Nat) (v : Option Value) (vm : Vm) (h : Heap) (L : List Loc) : Prop := own_Qstr Z 0 x y h0 n0 v vm h L
set_option maxRecDepth 65536 in
set_option maxHeartbeats 40000000 in
theorem own_str_0 (l : Launch) (Z : State) (a0 : Array Value) (hw : ∀ d ∈ tables_1, d.before a0 Z = true) (ws : List Jvm.Cond) (x : Int32) (y : Int32) (cs : Int32) (h0 : Heap) (n0 : Nat) (g0 : n0 ≤ h0.size) (hX : 0 ≤ x.toInt ∧ x.toInt < 256) (hY : 0 ≤ y.toInt ∧ y.toInt < 256) (hZn : Z.heap.size ≤ n0) (CS : Sta Z h0 "java/lang/String" "COMPACT_STRINGS" "Z" (.int cs)) (hcs : ¬ cs = (0 : Int32)) (held : Jvm.Lit.constHeld Z "java/lang/String" 7) (hcw : Jvm.Lit.compactW.before a0 Z = true) :
    MetFree l (⟨"com/example/libbuchi/libbuchi/formats/TokenIsPinLaw", "str", "(ICC)Ljava/lang/String;"⟩ : MethodName) (head1 (Jvm.Cond.code (⟨"com/example/libbuchi/libbuchi/formats/TokenIsPinLaw", "str", "(ICC)Ljava/lang/String;"⟩ : MethodName) method_3_code 3 (some (.object "java/lang/String")) :: ws) ({ frames := 4, cells := 4, slots := 10, locals := 66 } : Room)) (fun aa U => aa = #[(.int (0 : Int32)), (.int x), (.int y)] ∧ Z.Warmed39 U.vm ∧ U.heap = h0 ∧ own_G Z h0 U.vm) (fun _ _ _ _ _ => True) (fun _ U o U' => own_QV (Q_own_str_0 Z x y cs h0 n0) U ({ frames := 4, cells := 4, slots := 10, locals := 66 } : Room).cells ({ frames := 4, cells := 4, slots := 10, locals := 66 } : Room).slots o U') := by
  refine own_bodyV (x := (⟨"com/example/libbuchi/libbuchi/formats/TokenIsPinLaw", "str", "(ICC)Ljava/lang/String;"⟩ : MethodName)) (maxL := 3) (as' := #[(.int (0 : Int32)), (.int x), (.int y)]) (Q := Q_own_str_0 Z x y cs h0 n0) (G := own_G Z h0) pn_own_str_0 #[.val (.int (0 : Int32)), .val (.int x), .val (.int y)] (fun m => by first | (simp [entryFrame, mkF, argsToLocals, Value.category]; done) | rfl) ?_
  intro p e s m below meth c T0 X0 hx hby hml hret hlk hown hnm hZ e0 hs0 hG
  replace hml : c.maxLocals = 3 := hml
  replace hown : s.vm.findClass "com/example/libbuchi/libbuchi/formats/TokenIsPinLaw" = some m.cls := hown
  have N0 := Fr.nil n0
  refine own_st (G := T0.setTop (mkF m 1 #[.val (.int (0 : Int32)), .val (.int x), .val (.int y)] [(.int (0 : Int32))])) (fun _ kk => XS.iloadN X0.here hx rfl (hb hby down_str_0) rfl kk) ?_
  refine own_st (G := T0.setTop (mkF m 4 #[.val (.int (0 : Int32)), .val (.int x), .val (.int y)] [])) (fun _ kk => XS.ifNo X0.here hx rfl (hb hby down_str_1) rfl (XT.i0_ne_f (by decide : (0 : Int32) = (0 : Int32))) kk) ?_
  obtain ⟨T1, h2, X3, e4, E5, A6, D7, U9, st8⟩ := newO X0 hx hZ hown (own_w hw 5 rfl) (own_w hw 6 rfl) (own_w hw 7 rfl) e0 (g := (mkF m 4 #[.val (.int (0 : Int32)), .val (.int x), .val (.int y)] [])) rfl (hb hby down_str_4) (by decide) (by decide)
  obtain ⟨a10, g11⟩ : ∃ z, z = h0.size := ⟨_, rfl⟩
  rw [← g11] at A6 D7 U9 st8
  refine own_st st8 ?_
  show own_Out _ _ _ _ (T1.setTop (mkF m 7 #[.val (.int (0 : Int32)), .val (.int x), .val (.int y)] [(.ref a10)]))
  have O1 : own_S0 Z h2 a10 .null (0 : Int32) := ⟨A6, D7 (Or.inr (own_w hw 21 rfl)) (ty := .array (.byte)) (by decide), D7 (Or.inr (own_w hw 22 rfl)) (ty := .byte) (by decide)⟩
  have go : h0.size ≤ a10 := Nat.le_of_eq g11.symm
  have C1 := CS.ext E5
  refine own_st (G := T1.setTop (mkF m 8 #[.val (.int (0 : Int32)), .val (.int x), .val (.int y)] [(.ref a10), (.ref a10)])) (fun _ kk => XS.dup X3.here hx rfl (hb hby down_str_7) rfl rfl kk) ?_
  refine own_st (G := T1.setTop (mkF m 9 #[.val (.int (0 : Int32)), .val (.int x), .val (.int y)] [(.int (0 : Int32)), (.ref a10), (.ref a10)])) (fun _ kk => XT.iconstV X3.here hx rfl (0 : Int32) (hb hby down_str_8) (by decide) kk) ?_
  obtain ⟨T12, h13, cA14, X15, e16, E17, A18, st19⟩ := newP X3 hx hZ (own_w hw 8 rfl) e4 (g := (mkF m 9 #[.val (.int (0 : Int32)), .val (.int x), .val (.int y)] [(.int (0 : Int32)), (.ref a10), (.ref a10)])) rfl (hb hby down_str_9) rfl (by decide) (cap := 0) (by decide) (by decide) (by decide) (by decide)
  obtain ⟨a20, g21⟩ : ∃ z, z = h2.size := ⟨_, rfl⟩
  rw [← g21] at A18 st19
  have S22 : (newA cA14 .char (0 : Int32)).slots.size = 0 := (sz_new _ _ _).trans (by decide)
  refine own_st st19 ?_
  show own_Out _ _ _ _ (T12.setTop (mkF m 11 #[.val (.int (0 : Int32)), .val (.int x), .val (.int y)] [(.ref a20), (.ref a10), (.ref a10)]))
  have E2 := own_etr E5 E17
  have O2 := own_S0_ext E17 O1
  have C2 := C1.ext E17
  have gd : h0.size ≤ a20 := by rw [g21]; exact E5.1
  have gd0 : n0 ≤ a20 := Nat.le_trans g0 gd
  have nd : a10 ≠ a20 := Nat.ne_of_lt (by rw [g21]; exact (O1).1.lt)
  have F2 := own_AC_new (n := 0) A18 (by decide) rfl
  refine own_callIW (s := s) (vm0 := s.vm) X15 hx ((State.WarmedH.refl s).since 0) (Nat.zero_le _) hZ (y := (⟨"java/lang/String", "<init>", "([C)V"⟩ : MethodName)) (b := a10) (as' := [(.ref a20)]) rfl hown (own_w hw 9 rfl) (own_w hw 10 rfl) (own_w hw 11 rfl) (own_w hw 7 rfl) (by decide) (own_i1_0 l Z a0 hw [] a10 a20 _ cs h13 n0 O2 F2 (fun i hi => absurd hi (Nat.not_lt_zero _)) hZn (Nat.le_trans g0 go) C2 hcs held hcw) (fun vm₁ ww => own_G_ext E2 (own_G_warm (s := s) (vm0 := s.vm) ww hG)) 1 (by decide) (by decide) (by decide) (by decide) (rest := [(.ref a10)]) (by rw [hml]; rfl) (lenOf (by decide : parseMethodDescriptor "([C)V" = some ⟨[.array (.char)], none⟩) rfl) rfl (Nat.le_of_eq rfl) (hb hby down_str_11) e16 ?_
  intro T24 L25 v27 X26 S28 hZ29 hown30 hQ
  replace hZ := hZ29
  replace hown := hown30
  obtain ⟨rfl, N23', Kj, ⟨oj, Oj, Fj⟩, Gj⟩ := hQ
  show own_Out _ _ _ _ (T24.setTop (mkF m 14 #[.val (.int (0 : Int32)), .val (.int x), .val (.int y)] [(.ref a10)]))
  have N23 := Fr.app N0 N23'
  have Eo := own_ext_keep E2 Kj go
  refine own_retAV (s := s) (vm1 := T24.vm) X26 hx S28 (Nat.le_refl _) hret rfl rfl hlk (hb hby down_str_14) (by decide) (by decide) ?_
  exact ⟨_, rfl, N23, Eo, go, ⟨oj, Oj, own_AW_congr Fj (fun i hi => absurd hi (Nat.not_lt_zero _))⟩, Gj⟩
theorem pn_own_str_1 : plainFor (⟨"com/example/libbuchi/libbuchi/formats/TokenIsPinLaw", "str", "(ICC)Ljava/lang/String;"⟩ : MethodName) = true := by first | exact plainFor_of_name (by first | (simp [plainName, overriddenIn]; done) | decide +kernel) | decide +kernel
theorem down_str_15 : decode method_3_code 15 = .ok (.iload_n 0, 1) := by decide +kernel
theorem down_str_16 : decode method_3_code 16 = .ok (.iconst 1, 1) := by decide +kernel
theorem down_str_17 : decode method_3_code 17 = .ok (.if_icmp .ne 18, 3) := by decide +kernel
theorem down_str_20 : decode method_3_code 20 = .ok (.new 34, 3) := by decide +kernel
theorem down_str_23 : decode method_3_code 23 = .ok (.dup, 1) := by decide +kernel
theorem down_str_24 : decode method_3_code 24 = .ok (.iconst 1, 1) := by decide +kernel
theorem down_str_25 : decode method_3_code 25 = .ok (.newarray .char, 2) := by decide +kernel
theorem down_str_27 : decode method_3_code 27 = .ok (.dup, 1) := by decide +kernel
theorem down_str_28 : decode method_3_code 28 = .ok (.iconst 0, 1) := by decide +kernel
theorem down_str_29 : decode method_3_code 29 = .ok (.iload_n 1, 1) := by decide +kernel
theorem down_str_30 : decode method_3_code 30 = .ok (.castore, 1) := by decide +kernel
theorem down_str_31 : decode method_3_code 31 = .ok (.invokespecial 36, 3) := by decide +kernel
theorem down_str_34 : decode method_3_code 34 = .ok (.areturn, 1) := by decide +kernel
def Q_own_str_1 (Z : State) (x : Int32) (y : Int32) (cs : Int32) (h0 : Heap) (n0 : Nat) (v : Option Value) (vm : Vm) (h : Heap) (L : List Loc) : Prop := own_Qstr Z 1 x y h0 n0 v vm h L
set_option maxRecDepth 65536 in
set_option maxHeartbeats 40000000 in
theorem own_str_1 (l : Launch) (Z : State) (a0 : Array Value) (hw : ∀ d ∈ tables_1, d.before a0 Z = true) (ws : List Jvm.Cond) (x : Int32) (y : Int32) (cs : Int32) (h0 : Heap) (n0 : Nat) (g0 : n0 ≤ h0.size) (hX : 0 ≤ x.toInt ∧ x.toInt < 256) (hY : 0 ≤ y.toInt ∧ y.toInt < 256) (hZn : Z.heap.size ≤ n0) (CS : Sta Z h0 "java/lang/String" "COMPACT_STRINGS" "Z" (.int cs)) (hcs : ¬ cs = (0 : Int32)) (held : Jvm.Lit.constHeld Z "java/lang/String" 7) (hcw : Jvm.Lit.compactW.before a0 Z = true) :
    MetFree l (⟨"com/example/libbuchi/libbuchi/formats/TokenIsPinLaw", "str", "(ICC)Ljava/lang/String;"⟩ : MethodName) (head1 (Jvm.Cond.code (⟨"com/example/libbuchi/libbuchi/formats/TokenIsPinLaw", "str", "(ICC)Ljava/lang/String;"⟩ : MethodName) method_3_code 3 (some (.object "java/lang/String")) :: ws) ({ frames := 4, cells := 4, slots := 10, locals := 66 } : Room)) (fun aa U => aa = #[(.int (1 : Int32)), (.int x), (.int y)] ∧ Z.Warmed39 U.vm ∧ U.heap = h0 ∧ own_G Z h0 U.vm) (fun _ _ _ _ _ => True) (fun _ U o U' => own_QV (Q_own_str_1 Z x y cs h0 n0) U ({ frames := 4, cells := 4, slots := 10, locals := 66 } : Room).cells ({ frames := 4, cells := 4, slots := 10, locals := 66 } : Room).slots o U') := by
  refine own_bodyV (x := (⟨"com/example/libbuchi/libbuchi/formats/TokenIsPinLaw", "str", "(ICC)Ljava/lang/String;"⟩ : MethodName)) (maxL := 3) (as' := #[(.int (1 : Int32)), (.int x), (.int y)]) (Q := Q_own_str_1 Z x y cs h0 n0) (G := own_G Z h0) pn_own_str_1 #[.val (.int (1 : Int32)), .val (.int x), .val (.int y)] (fun m => by first | (simp [entryFrame, mkF, argsToLocals, Value.category]; done) | rfl) ?_
  intro p e s m below meth c T0 X0 hx hby hml hret hlk hown hnm hZ e0 hs0 hG
  replace hml : c.maxLocals = 3 := hml
  replace hown : s.vm.findClass "com/example/libbuchi/libbuchi/formats/TokenIsPinLaw" = some m.cls := hown
  have N0 := Fr.nil n0
  refine own_st (G := T0.setTop (mkF m 1 #[.val (.int (1 : Int32)), .val (.int x), .val (.int y)] [(.int (1 : Int32))])) (fun _ kk => XS.iloadN X0.here hx rfl (hb hby down_str_0) rfl kk) ?_
  refine own_st (G := T0.setTop (mkF m 15 #[.val (.int (1 : Int32)), .val (.int x), .val (.int y)] [])) (fun _ kk => XS.ifYes X0.here hx rfl (pc0 := 1) (pc' := 15) rfl (hb hby down_str_1) rfl (XT.i0_ne_t (by decide : ¬ (1 : Int32) = (0 : Int32))) (by decide) (by decide) kk) ?_
  refine own_st (G := T0.setTop (mkF m 16 #[.val (.int (1 : Int32)), .val (.int x), .val (.int y)] [(.int (1 : Int32))])) (fun _ kk => XS.iloadN X0.here hx rfl (hb hby down_str_15) rfl kk) ?_
  refine own_st (G := T0.setTop (mkF m 17 #[.val (.int (1 : Int32)), .val (.int x), .val (.int y)] [(.int (1 : Int32)), (.int (1 : Int32))])) (fun _ kk => XT.iconstV X0.here hx rfl (1 : Int32) (hb hby down_str_16) (by decide) kk) ?_
  refine own_st (G := T0.setTop (mkF m 20 #[.val (.int (1 : Int32)), .val (.int x), .val (.int y)] [])) (fun _ kk => XS.icmpNo X0.here hx rfl (hb hby down_str_17) rfl (XT.ii_ne_f (by decide : (1 : Int32) = (1 : Int32))) kk) ?_
  obtain ⟨T1, h2, X3, e4, E5, A6, D7, U9, st8⟩ := newO X0 hx hZ hown (own_w hw 5 rfl) (own_w hw 6 rfl) (own_w hw 7 rfl) e0 (g := (mkF m 20 #[.val (.int (1 : Int32)), .val (.int x), .val (.int y)] [])) rfl (hb hby down_str_20) (by decide) (by decide)
  obtain ⟨a10, g11⟩ : ∃ z, z = h0.size := ⟨_, rfl⟩
  rw [← g11] at A6 D7 U9 st8
  refine own_st st8 ?_
  show own_Out _ _ _ _ (T1.setTop (mkF m 23 #[.val (.int (1 : Int32)), .val (.int x), .val (.int y)] [(.ref a10)]))
  have O1 : own_S0 Z h2 a10 .null (0 : Int32) := ⟨A6, D7 (Or.inr (own_w hw 21 rfl)) (ty := .array (.byte)) (by decide), D7 (Or.inr (own_w hw 22 rfl)) (ty := .byte) (by decide)⟩
  have go : h0.size ≤ a10 := Nat.le_of_eq g11.symm
  have C1 := CS.ext E5
  refine own_st (G := T1.setTop (mkF m 24 #[.val (.int (1 : Int32)), .val (.int x), .val (.int y)] [(.ref a10), (.ref a10)])) (fun _ kk => XS.dup X3.here hx rfl (hb hby down_str_23) rfl rfl kk) ?_
  refine own_st (G := T1.setTop (mkF m 25 #[.val (.int (1 : Int32)), .val (.int x), .val (.int y)] [(.int (1 : Int32)), (.ref a10), (.ref a10)])) (fun _ kk => XT.iconstV X3.here hx rfl (1 : Int32) (hb hby down_str_24) (by decide) kk) ?_
  obtain ⟨T12, h13, cA14, X15, e16, E17, A18, st19⟩ := newP X3 hx hZ (own_w hw 8 rfl) e4 (g := (mkF m 25 #[.val (.int (1 : Int32)), .val (.int x), .val (.int y)] [(.int (1 : Int32)), (.ref a10), (.ref a10)])) rfl (hb hby down_str_25) rfl (by decide) (cap := 1) (by decide) (by decide) (by decide) (by decide)
  obtain ⟨a20, g21⟩ : ∃ z, z = h2.size := ⟨_, rfl⟩
  rw [← g21] at A18 st19
  have S22 : (newA cA14 .char (1 : Int32)).slots.size = 1 := (sz_new _ _ _).trans (by decide)
  refine own_st st19 ?_
  show own_Out _ _ _ _ (T12.setTop (mkF m 27 #[.val (.int (1 : Int32)), .val (.int x), .val (.int y)] [(.ref a20), (.ref a10), (.ref a10)]))
  have E2 := own_etr E5 E17
  have O2 := own_S0_ext E17 O1
  have C2 := C1.ext E17
  have gd : h0.size ≤ a20 := by rw [g21]; exact E5.1
  have gd0 : n0 ≤ a20 := Nat.le_trans g0 gd
  have nd : a10 ≠ a20 := Nat.ne_of_lt (by rw [g21]; exact (O1).1.lt)
  have F2 := own_AC_new (n := 1) A18 (by decide) rfl
  refine own_st (G := T12.setTop (mkF m 28 #[.val (.int (1 : Int32)), .val (.int x), .val (.int y)] [(.ref a20), (.ref a20), (.ref a10), (.ref a10)])) (fun _ kk => XS.dup X15.here hx rfl (hb hby down_str_27) rfl rfl kk) ?_
  refine own_st (G := T12.setTop (mkF m 29 #[.val (.int (1 : Int32)), .val (.int x), .val (.int y)] [(.int (0 : Int32)), (.ref a20), (.ref a20), (.ref a10), (.ref a10)])) (fun _ kk => XT.iconstV X15.here hx rfl (0 : Int32) (hb hby down_str_28) (by decide) kk) ?_
  refine own_st (G := T12.setTop (mkF m 30 #[.val (.int (1 : Int32)), .val (.int x), .val (.int y)] [(.int x), (.int (0 : Int32)), (.ref a20), (.ref a20), (.ref a10), (.ref a10)])) (fun _ kk => XS.iloadN X15.here hx rfl (hb hby down_str_29) rfl kk) ?_
  refine own_castore X15 hx hZ e16 F2 (j := (0 : Int32)) (i := 0) (by decide) rfl (by decide) (hb hby down_str_30) ?_
  intro T23 h24 X25 e26 W27 F28
  show own_Out _ _ _ _ (T23.setTop (mkF m 31 #[.val (.int (1 : Int32)), .val (.int x), .val (.int y)] [(.ref a20), (.ref a10), (.ref a10)]))
  have K29 := Keep.of_wr W27
  have E30 := own_ext_keep E2 K29 gd
  have O31 := own_S0_keep K29 (fun z => nd (List.mem_singleton.mp z)) O2
  have C32 := C2.wr W27
  have N33 := Fr.snoc X25 N0 gd0
  refine own_callIW (s := s) (vm0 := s.vm) X25 hx ((State.WarmedH.refl s).since 0) (Nat.zero_le _) hZ (y := (⟨"java/lang/String", "<init>", "([C)V"⟩ : MethodName)) (b := a10) (as' := [(.ref a20)]) rfl hown (own_w hw 9 rfl) (own_w hw 10 rfl) (own_w hw 11 rfl) (own_w hw 7 rfl) (by decide) (own_i1_1 l Z a0 hw [] a10 a20 _ cs h24 n0 O31 F28 (own_lt1 (own_c255 hX)) hZn (Nat.le_trans g0 go) C32 hcs held hcw) (fun vm₁ ww => own_G_ext E30 (own_G_warm (s := s) (vm0 := s.vm) ww hG)) 1 (by decide) (by decide) (by decide) (by decide) (rest := [(.ref a10)]) (by rw [hml]; rfl) (lenOf (by decide : parseMethodDescriptor "([C)V" = some ⟨[.array (.char)], none⟩) rfl) rfl (Nat.le_of_eq rfl) (hb hby down_str_31) e26 ?_
  intro T35 L36 v38 X37 S39 hZ40 hown41 hQ
  replace hZ := hZ40
  replace hown := hown41
  obtain ⟨rfl, N34', Kj, ⟨oj, Oj, Fj⟩, Gj⟩ := hQ
  show own_Out _ _ _ _ (T35.setTop (mkF m 34 #[.val (.int (1 : Int32)), .val (.int x), .val (.int y)] [(.ref a10)]))
  have N34 := Fr.app N33 N34'
  have Eo := own_ext_keep E30 Kj go
  refine own_retAV (s := s) (vm1 := T35.vm) X37 hx S39 (Nat.le_refl _) hret rfl rfl hlk (hb hby down_str_34) (by decide) (by decide) ?_
  exact ⟨_, rfl, N34, Eo, go, ⟨oj, Oj, own_AW_congr Fj (own_lt1 rfl)⟩, Gj⟩
theorem pn_own_str_2 : plainFor (⟨"com/example/libbuchi/libbuchi/formats/TokenIsPinLaw", "str", "(ICC)Ljava/lang/String;"⟩ : MethodName) = true := by first | exact plainFor_of_name (by first | (simp [plainName, overriddenIn]; done) | decide +kernel) | decide +kernel
theorem down_str_35 : decode method_3_code 35 = .ok (.new 34, 3) := by decide +kernel
theorem down_str_38 : decode method_3_code 38 = .ok (.dup, 1) := by decide +kernel
theorem down_str_39 : decode method_3_code 39 = .ok (.iconst 2, 1) := by decide +kernel
theorem down_str_40 : decode method_3_code 40 = .ok (.newarray .char, 2) := by decide +kernel
theorem down_str_42 : decode method_3_code 42 = .ok (.dup, 1) := by decide +kernel
theorem down_str_43 : decode method_3_code 43 = .ok (.iconst 0, 1) := by decide +kernel
theorem down_str_44 : decode method_3_code 44 = .ok (.iload_n 1, 1) := by decide +kernel
theorem down_str_45 : decode method_3_code 45 = .ok (.castore, 1) := by decide +kernel
theorem down_str_46 : decode method_3_code 46 = .ok (.dup, 1) := by decide +kernel
theorem down_str_47 : decode method_3_code 47 = .ok (.iconst 1, 1) := by decide +kernel
theorem down_str_48 : decode method_3_code 48 = .ok (.iload_n 2, 1) := by decide +kernel
theorem down_str_49 : decode method_3_code 49 = .ok (.castore, 1) := by decide +kernel
theorem down_str_50 : decode method_3_code 50 = .ok (.invokespecial 36, 3) := by decide +kernel
theorem down_str_53 : decode method_3_code 53 = .ok (.areturn, 1) := by decide +kernel
def Q_own_str_2 (Z : State) (x : Int32) (y : Int32) (cs : Int32) (h0 : Heap) (n0 : Nat) (v : Option Value) (vm : Vm) (h : Heap) (L : List Loc) : Prop := own_Qstr Z 2 x y h0 n0 v vm h L
set_option maxRecDepth 65536 in
set_option maxHeartbeats 40000000 in
theorem own_str_2 (l : Launch) (Z : State) (a0 : Array Value) (hw : ∀ d ∈ tables_1, d.before a0 Z = true) (ws : List Jvm.Cond) (x : Int32) (y : Int32) (cs : Int32) (h0 : Heap) (n0 : Nat) (g0 : n0 ≤ h0.size) (hX : 0 ≤ x.toInt ∧ x.toInt < 256) (hY : 0 ≤ y.toInt ∧ y.toInt < 256) (hZn : Z.heap.size ≤ n0) (CS : Sta Z h0 "java/lang/String" "COMPACT_STRINGS" "Z" (.int cs)) (hcs : ¬ cs = (0 : Int32)) (held : Jvm.Lit.constHeld Z "java/lang/String" 7) (hcw : Jvm.Lit.compactW.before a0 Z = true) :
    MetFree l (⟨"com/example/libbuchi/libbuchi/formats/TokenIsPinLaw", "str", "(ICC)Ljava/lang/String;"⟩ : MethodName) (head1 (Jvm.Cond.code (⟨"com/example/libbuchi/libbuchi/formats/TokenIsPinLaw", "str", "(ICC)Ljava/lang/String;"⟩ : MethodName) method_3_code 3 (some (.object "java/lang/String")) :: ws) ({ frames := 4, cells := 4, slots := 10, locals := 66 } : Room)) (fun aa U => aa = #[(.int (2 : Int32)), (.int x), (.int y)] ∧ Z.Warmed39 U.vm ∧ U.heap = h0 ∧ own_G Z h0 U.vm) (fun _ _ _ _ _ => True) (fun _ U o U' => own_QV (Q_own_str_2 Z x y cs h0 n0) U ({ frames := 4, cells := 4, slots := 10, locals := 66 } : Room).cells ({ frames := 4, cells := 4, slots := 10, locals := 66 } : Room).slots o U') := by
  refine own_bodyV (x := (⟨"com/example/libbuchi/libbuchi/formats/TokenIsPinLaw", "str", "(ICC)Ljava/lang/String;"⟩ : MethodName)) (maxL := 3) (as' := #[(.int (2 : Int32)), (.int x), (.int y)]) (Q := Q_own_str_2 Z x y cs h0 n0) (G := own_G Z h0) pn_own_str_2 #[.val (.int (2 : Int32)), .val (.int x), .val (.int y)] (fun m => by first | (simp [entryFrame, mkF, argsToLocals, Value.category]; done) | rfl) ?_
  intro p e s m below meth c T0 X0 hx hby hml hret hlk hown hnm hZ e0 hs0 hG
  replace hml : c.maxLocals = 3 := hml
  replace hown : s.vm.findClass "com/example/libbuchi/libbuchi/formats/TokenIsPinLaw" = some m.cls := hown
  have N0 := Fr.nil n0
  refine own_st (G := T0.setTop (mkF m 1 #[.val (.int (2 : Int32)), .val (.int x), .val (.int y)] [(.int (2 : Int32))])) (fun _ kk => XS.iloadN X0.here hx rfl (hb hby down_str_0) rfl kk) ?_
  refine own_st (G := T0.setTop (mkF m 15 #[.val (.int (2 : Int32)), .val (.int x), .val (.int y)] [])) (fun _ kk => XS.ifYes X0.here hx rfl (pc0 := 1) (pc' := 15) rfl (hb hby down_str_1) rfl (XT.i0_ne_t (by decide : ¬ (2 : Int32) = (0 : Int32))) (by decide) (by decide) kk) ?_
  refine own_st (G := T0.setTop (mkF m 16 #[.val (.int (2 : Int32)), .val (.int x), .val (.int y)] [(.int (2 : Int32))])) (fun _ kk => XS.iloadN X0.here hx rfl (hb hby down_str_15) rfl kk) ?_
  refine own_st (G := T0.setTop (mkF m 17 #[.val (.int (2 : Int32)), .val (.int x), .val (.int y)] [(.int (1 : Int32)), (.int (2 : Int32))])) (fun _ kk => XT.iconstV X0.here hx rfl (1 : Int32) (hb hby down_str_16) (by decide) kk) ?_
  refine own_st (G := T0.setTop (mkF m 35 #[.val (.int (2 : Int32)), .val (.int x), .val (.int y)] [])) (fun _ kk => XS.icmpYes X0.here hx rfl (pc0 := 17) (pc' := 35) rfl (hb hby down_str_17) rfl (XT.ii_ne_t (by decide : ¬ (2 : Int32) = (1 : Int32))) (by decide) (by decide) kk) ?_
  obtain ⟨T1, h2, X3, e4, E5, A6, D7, U9, st8⟩ := newO X0 hx hZ hown (own_w hw 5 rfl) (own_w hw 6 rfl) (own_w hw 7 rfl) e0 (g := (mkF m 35 #[.val (.int (2 : Int32)), .val (.int x), .val (.int y)] [])) rfl (hb hby down_str_35) (by decide) (by decide)
  obtain ⟨a10, g11⟩ : ∃ z, z = h0.size := ⟨_, rfl⟩
  rw [← g11] at A6 D7 U9 st8
  refine own_st st8 ?_
  show own_Out _ _ _ _ (T1.setTop (mkF m 38 #[.val (.int (2 : Int32)), .val (.int x), .val (.int y)] [(.ref a10)]))
  have O1 : own_S0 Z h2 a10 .null (0 : Int32) := ⟨A6, D7 (Or.inr (own_w hw 21 rfl)) (ty := .array (.byte)) (by decide), D7 (Or.inr (own_w hw 22 rfl)) (ty := .byte) (by decide)⟩
  have go : h0.size ≤ a10 := Nat.le_of_eq g11.symm
  have C1 := CS.ext E5
  refine own_st (G := T1.setTop (mkF m 39 #[.val (.int (2 : Int32)), .val (.int x), .val (.int y)] [(.ref a10), (.ref a10)])) (fun _ kk => XS.dup X3.here hx rfl (hb hby down_str_38) rfl rfl kk) ?_
  refine own_st (G := T1.setTop (mkF m 40 #[.val (.int (2 : Int32)), .val (.int x), .val (.int y)] [(.int (2 : Int32)), (.ref a10), (.ref a10)])) (fun _ kk => XT.iconstV X3.here hx rfl (2 : Int32) (hb hby down_str_39) (by decide) kk) ?_
  obtain ⟨T12, h13, cA14, X15, e16, E17, A18, st19⟩ := newP X3 hx hZ (own_w hw 8 rfl) e4 (g := (mkF m 40 #[.val (.int (2 : Int32)), .val (.int x), .val (.int y)] [(.int (2 : Int32)), (.ref a10), (.ref a10)])) rfl (hb hby down_str_40) rfl (by decide) (cap := 2) (by decide) (by decide) (by decide) (by decide)
  obtain ⟨a20, g21⟩ : ∃ z, z = h2.size := ⟨_, rfl⟩
  rw [← g21] at A18 st19
  have S22 : (newA cA14 .char (2 : Int32)).slots.size = 2 := (sz_new _ _ _).trans (by decide)
  refine own_st st19 ?_
  show own_Out _ _ _ _ (T12.setTop (mkF m 42 #[.val (.int (2 : Int32)), .val (.int x), .val (.int y)] [(.ref a20), (.ref a10), (.ref a10)]))
  have E2 := own_etr E5 E17
  have O2 := own_S0_ext E17 O1
  have C2 := C1.ext E17
  have gd : h0.size ≤ a20 := by rw [g21]; exact E5.1
  have gd0 : n0 ≤ a20 := Nat.le_trans g0 gd
  have nd : a10 ≠ a20 := Nat.ne_of_lt (by rw [g21]; exact (O1).1.lt)
  have F2 := own_AC_new (n := 2) A18 (by decide) rfl
  refine own_st (G := T12.setTop (mkF m 43 #[.val (.int (2 : Int32)), .val (.int x), .val (.int y)] [(.ref a20), (.ref a20), (.ref a10), (.ref a10)])) (fun _ kk => XS.dup X15.here hx rfl (hb hby down_str_42) rfl rfl kk) ?_
  refine own_st (G := T12.setTop (mkF m 44 #[.val (.int (2 : Int32)), .val (.int x), .val (.int y)] [(.int (0 : Int32)), (.ref a20), (.ref a20), (.ref a10), (.ref a10)])) (fun _ kk => XT.iconstV X15.here hx rfl (0 : Int32) (hb hby down_str_43) (by decide) kk) ?_
  refine own_st (G := T12.setTop (mkF m 45 #[.val (.int (2 : Int32)), .val (.int x), .val (.int y)] [(.int x), (.int (0 : Int32)), (.ref a20), (.ref a20), (.ref a10), (.ref a10)])) (fun _ kk => XS.iloadN X15.here hx rfl (hb hby down_str_44) rfl kk) ?_
  refine own_castore X15 hx hZ e16 F2 (j := (0 : Int32)) (i := 0) (by decide) rfl (by decide) (hb hby down_str_45) ?_
  intro T23 h24 X25 e26 W27 F28
  show own_Out _ _ _ _ (T23.setTop (mkF m 46 #[.val (.int (2 : Int32)), .val (.int x), .val (.int y)] [(.ref a20), (.ref a10), (.ref a10)]))
  have K29 := Keep.of_wr W27
  have E30 := own_ext_keep E2 K29 gd
  have O31 := own_S0_keep K29 (fun z => nd (List.mem_singleton.mp z)) O2
  have C32 := C2.wr W27
  have N33 := Fr.snoc X25 N0 gd0
  refine own_st (G := T23.setTop (mkF m 47 #[.val (.int (2 : Int32)), .val (.int x), .val (.int y)] [(.ref a20), (.ref a20), (.ref a10), (.ref a10)])) (fun _ kk => XS.dup X25.here hx rfl (hb hby down_str_46) rfl rfl kk) ?_
  refine own_st (G := T23.setTop (mkF m 48 #[.val (.int (2 : Int32)), .val (.int x), .val (.int y)] [(.int (1 : Int32)), (.ref a20), (.ref a20), (.ref a10), (.ref a10)])) (fun _ kk => XT.iconstV X25.here hx rfl (1 : Int32) (hb hby down_str_47) (by decide) kk) ?_
  refine own_st (G := T23.setTop (mkF m 49 #[.val (.int (2 : Int32)), .val (.int x), .val (.int y)] [(.int y), (.int (1 : Int32)), (.ref a20), (.ref a20), (.ref a10), (.ref a10)])) (fun _ kk => XS.iloadN X25.here hx rfl (hb hby down_str_48) rfl kk) ?_
  refine own_castore X25 hx hZ e26 F28 (j := (1 : Int32)) (i := 1) (by decide) rfl (by decide) (hb hby down_str_49) ?_
  intro T34 h35 X36 e37 W38 F39
  show own_Out _ _ _ _ (T34.setTop (mkF m 50 #[.val (.int (2 : Int32)), .val (.int x), .val (.int y)] [(.ref a20), (.ref a10), (.ref a10)]))
  have K40 := Keep.of_wr W38
  have E41 := own_ext_keep E30 K40 gd
  have O42 := own_S0_keep K40 (fun z => nd (List.mem_singleton.mp z)) O31
  have C43 := C32.wr W38
  have N44 := Fr.snoc X36 N33 gd0
  refine own_callIW (s := s) (vm0 := s.vm) X36 hx ((State.WarmedH.refl s).since 0) (Nat.zero_le _) hZ (y := (⟨"java/lang/String", "<init>", "([C)V"⟩ : MethodName)) (b := a10) (as' := [(.ref a20)]) rfl hown (own_w hw 9 rfl) (own_w hw 10 rfl) (own_w hw 11 rfl) (own_w hw 7 rfl) (by decide) (own_i1_2 l Z a0 hw [] a10 a20 _ cs h35 n0 O42 F39 (own_lt2 (own_c255 hX) (own_c255 hY)) hZn (Nat.le_trans g0 go) C43 hcs held hcw) (fun vm₁ ww => own_G_ext E41 (own_G_warm (s := s) (vm0 := s.vm) ww hG)) 1 (by decide) (by decide) (by decide) (by decide) (rest := [(.ref a10)]) (by rw [hml]; rfl) (lenOf (by decide : parseMethodDescriptor "([C)V" = some ⟨[.array (.char)], none⟩) rfl) rfl (Nat.le_of_eq rfl) (hb hby down_str_50) e37 ?_
  intro T46 L47 v49 X48 S50 hZ51 hown52 hQ
  replace hZ := hZ51
  replace hown := hown52
  obtain ⟨rfl, N45', Kj, ⟨oj, Oj, Fj⟩, Gj⟩ := hQ
  show own_Out _ _ _ _ (T46.setTop (mkF m 53 #[.val (.int (2 : Int32)), .val (.int x), .val (.int y)] [(.ref a10)]))
  have N45 := Fr.app N44 N45'
  have Eo := own_ext_keep E41 Kj go
  refine own_retAV (s := s) (vm1 := T46.vm) X48 hx S50 (Nat.le_refl _) hret rfl rfl hlk (hb hby down_str_53) (by decide) (by decide) ?_
  exact ⟨_, rfl, N45, Eo, go, ⟨oj, Oj, own_AW_congr Fj (own_lt2 rfl rfl)⟩, Gj⟩
theorem own_str (l : Launch) (Z : State) (a0 : Array Value) (hw : ∀ d ∈ tables_1, d.before a0 Z = true) (ws : List Jvm.Cond) (n x y : Int32) (cs : Int32) (h0 : Heap) (n0 : Nat) (hn : n = 0 ∨ n = 1 ∨ n = 2) (g0 : n0 ≤ h0.size) (hX : 0 ≤ x.toInt ∧ x.toInt < 256) (hY : 0 ≤ y.toInt ∧ y.toInt < 256) (hZn : Z.heap.size ≤ n0) (CS : Sta Z h0 "java/lang/String" "COMPACT_STRINGS" "Z" (.int cs)) (hcs : ¬ cs = (0 : Int32)) (held : Jvm.Lit.constHeld Z "java/lang/String" 7) (hcw : Jvm.Lit.compactW.before a0 Z = true) :
    MetFree l (⟨"com/example/libbuchi/libbuchi/formats/TokenIsPinLaw", "str", "(ICC)Ljava/lang/String;"⟩ : MethodName) (head1 (Jvm.Cond.code (⟨"com/example/libbuchi/libbuchi/formats/TokenIsPinLaw", "str", "(ICC)Ljava/lang/String;"⟩ : MethodName) method_3_code 3 (some (.object "java/lang/String")) :: ws) ({ frames := 4, cells := 4, slots := 10, locals := 66 } : Room)) (fun aa U => aa = #[.int n, .int x, .int y] ∧ Z.Warmed39 U.vm ∧ U.heap = h0 ∧ own_G Z h0 U.vm) (fun _ _ _ _ _ => True) (fun _ U o U' => own_QV (own_Qstr Z n.toNatClampNeg x y h0 n0) U ({ frames := 4, cells := 4, slots := 10, locals := 66 } : Room).cells ({ frames := 4, cells := 4, slots := 10, locals := 66 } : Room).slots o U') := by
  rcases hn with rfl | rfl | rfl
  · exact own_str_0 l Z a0 hw ws x y cs h0 n0 g0 hX hY hZn CS hcs held hcw
  · exact own_str_1 l Z a0 hw ws x y cs h0 n0 g0 hX hY hZn CS hcs held hcw
  · exact own_str_2 l Z a0 hw ws x y cs h0 n0 g0 hX hY hZn CS hcs held hcw
def own_K (Z : State) (h : Heap) (fk : Int32 → Addr) : Prop := Sta Z h "com/example/libbuchi/libbuchi/formats/HoaLexer$Kind" "HEADER" "Lcom/example/libbuchi/libbuchi/formats/HoaLexer$Kind;" (.ref (fk (0 : Int32))) ∧ Sta Z h "com/example/libbuchi/libbuchi/formats/HoaLexer$Kind" "IDENTIFIER" "Lcom/example/libbuchi/libbuchi/formats/HoaLexer$Kind;" (.ref (fk (1 : Int32))) ∧ Sta Z h "com/example/libbuchi/libbuchi/formats/HoaLexer$Kind" "ALIAS" "Lcom/example/libbuchi/libbuchi/formats/HoaLexer$Kind;" (.ref (fk (2 : Int32))) ∧ Sta Z h "com/example/libbuchi/libbuchi/formats/HoaLexer$Kind" "INTEGER" "Lcom/example/libbuchi/libbuchi/formats/HoaLexer$Kind;" (.ref (fk (3 : Int32))) ∧ Sta Z h "com/example/libbuchi/libbuchi/formats/HoaLexer$Kind" "STRING" "Lcom/example/libbuchi/libbuchi/formats/HoaLexer$Kind;" (.ref (fk (4 : Int32))) ∧ Sta Z h "com/example/libbuchi/libbuchi/formats/HoaLexer$Kind" "SYMBOL" "Lcom/example/libbuchi/libbuchi/formats/HoaLexer$Kind;" (.ref (fk (5 : Int32))) ∧ Sta Z h "com/example/libbuchi/libbuchi/formats/HoaLexer$Kind" "MARKER" "Lcom/example/libbuchi/libbuchi/formats/HoaLexer$Kind;" (.ref (fk (6 : Int32))) ∧ Sta Z h "com/example/libbuchi/libbuchi/formats/HoaLexer$Kind" "END" "Lcom/example/libbuchi/libbuchi/formats/HoaLexer$Kind;" (.ref (fk (7 : Int32)))
theorem own_K_ext {Z : State} {h h' : Heap} {fk : Int32 → Addr} (E : Ext h h') (hK : own_K Z h fk) : own_K Z h' fk := ⟨(hK).1.ext E, (hK).2.1.ext E, (hK).2.2.1.ext E, (hK).2.2.2.1.ext E, (hK).2.2.2.2.1.ext E, (hK).2.2.2.2.2.1.ext E, (hK).2.2.2.2.2.2.1.ext E, (hK).2.2.2.2.2.2.2.ext E⟩
theorem pn_own_kind : plainFor (⟨"com/example/libbuchi/libbuchi/formats/TokenIsPinLaw", "kind", "(I)Lcom/example/libbuchi/libbuchi/formats/HoaLexer$Kind;"⟩ : MethodName) = true := by first | exact plainFor_of_name (by first | (simp [plainName, overriddenIn]; done) | decide +kernel) | decide +kernel
theorem down_kind_0 : decode method_2_code 0 = .ok (.iload_n 0, 1) := by decide +kernel
theorem down_kind_1 : decode method_2_code 1 = .ok (.ifCond .ne 7, 3) := by decide +kernel
theorem down_kind_4 : decode method_2_code 4 = .ok (.getstatic 7, 3) := by decide +kernel
theorem down_kind_7 : decode method_2_code 7 = .ok (.areturn, 1) := by decide +kernel
theorem down_kind_8 : decode method_2_code 8 = .ok (.iload_n 0, 1) := by decide +kernel
theorem down_kind_9 : decode method_2_code 9 = .ok (.iconst 1, 1) := by decide +kernel
theorem down_kind_10 : decode method_2_code 10 = .ok (.if_icmp .ne 7, 3) := by decide +kernel
theorem down_kind_13 : decode method_2_code 13 = .ok (.getstatic 13, 3) := by decide +kernel
theorem down_kind_16 : decode method_2_code 16 = .ok (.areturn, 1) := by decide +kernel
theorem down_kind_17 : decode method_2_code 17 = .ok (.iload_n 0, 1) := by decide +kernel
theorem down_kind_18 : decode method_2_code 18 = .ok (.iconst 2, 1) := by decide +kernel
theorem down_kind_19 : decode method_2_code 19 = .ok (.if_icmp .ne 7, 3) := by decide +kernel
theorem down_kind_22 : decode method_2_code 22 = .ok (.getstatic 16, 3) := by decide +kernel
theorem down_kind_25 : decode method_2_code 25 = .ok (.areturn, 1) := by decide +kernel
theorem down_kind_26 : decode method_2_code 26 = .ok (.iload_n 0, 1) := by decide +kernel
theorem down_kind_27 : decode method_2_code 27 = .ok (.iconst 3, 1) := by decide +kernel
theorem down_kind_28 : decode method_2_code 28 = .ok (.if_icmp .ne 7, 3) := by decide +kernel
theorem down_kind_31 : decode method_2_code 31 = .ok (.getstatic 19, 3) := by decide +kernel
theorem down_kind_34 : decode method_2_code 34 = .ok (.areturn, 1) := by decide +kernel
theorem down_kind_35 : decode method_2_code 35 = .ok (.iload_n 0, 1) := by decide +kernel
theorem down_kind_36 : decode method_2_code 36 = .ok (.iconst 4, 1) := by decide +kernel
theorem down_kind_37 : decode method_2_code 37 = .ok (.if_icmp .ne 7, 3) := by decide +kernel
theorem down_kind_40 : decode method_2_code 40 = .ok (.getstatic 22, 3) := by decide +kernel
theorem down_kind_43 : decode method_2_code 43 = .ok (.areturn, 1) := by decide +kernel
theorem down_kind_44 : decode method_2_code 44 = .ok (.iload_n 0, 1) := by decide +kernel
theorem down_kind_45 : decode method_2_code 45 = .ok (.iconst 5, 1) := by decide +kernel
theorem down_kind_46 : decode method_2_code 46 = .ok (.if_icmp .ne 7, 3) := by decide +kernel
theorem down_kind_49 : decode method_2_code 49 = .ok (.getstatic 25, 3) := by decide +kernel
theorem down_kind_52 : decode method_2_code 52 = .ok (.areturn, 1) := by decide +kernel
theorem down_kind_53 : decode method_2_code 53 = .ok (.iload_n 0, 1) := by decide +kernel
theorem down_kind_54 : decode method_2_code 54 = .ok (.bipush 6, 2) := by decide +kernel
theorem down_kind_56 : decode method_2_code 56 = .ok (.if_icmp .ne 7, 3) := by decide +kernel
theorem down_kind_59 : decode method_2_code 59 = .ok (.getstatic 28, 3) := by decide +kernel
theorem down_kind_62 : decode method_2_code 62 = .ok (.areturn, 1) := by decide +kernel
theorem down_kind_63 : decode method_2_code 63 = .ok (.getstatic 31, 3) := by decide +kernel
theorem down_kind_66 : decode method_2_code 66 = .ok (.areturn, 1) := by decide +kernel
def Q_own_kind (Z : State) (i : Int32) (fk : Int32 → Addr) (h0 : Heap) (n0 : Nat) (v : Option Value) (h : Heap) (L : List Loc) : Prop := v = some (.ref (fk i)) ∧ L = [] ∧ h = h0
set_option maxRecDepth 65536 in
set_option maxHeartbeats 40000000 in
theorem own_kind (l : Launch) (Z : State) (a0 : Array Value) (hw : ∀ d ∈ tables_1, d.before a0 Z = true) (ws : List Jvm.Cond) (i : Int32) (fk : Int32 → Addr) (h0 : Heap) (n0 : Nat) (hK : own_K Z h0 fk) (hi : 0 ≤ i.toInt ∧ i.toInt < 8) :
    MetFree l (⟨"com/example/libbuchi/libbuchi/formats/TokenIsPinLaw", "kind", "(I)Lcom/example/libbuchi/libbuchi/formats/HoaLexer$Kind;"⟩ : MethodName) (head1 (Jvm.Cond.code (⟨"com/example/libbuchi/libbuchi/formats/TokenIsPinLaw", "kind", "(I)Lcom/example/libbuchi/libbuchi/formats/HoaLexer$Kind;"⟩ : MethodName) method_2_code 1 (some (.object "com/example/libbuchi/libbuchi/formats/HoaLexer$Kind")) :: ws) ({ frames := 0, cells := 0, slots := 0, locals := 0 } : Room)) (fun aa U => aa = #[(.int i)] ∧ Z.Warmed39 U.vm ∧ U.heap = h0) (fun _ _ _ _ _ => True) (fun _ U o U' => ∃ v L, o = .returned v ∧ Q_own_kind Z i fk h0 n0 v U'.heap L ∧ FrameEnd U o U' L ({ frames := 0, cells := 0, slots := 0, locals := 0 } : Room).cells ({ frames := 0, cells := 0, slots := 0, locals := 0 } : Room).slots) := by
  refine own_body (x := (⟨"com/example/libbuchi/libbuchi/formats/TokenIsPinLaw", "kind", "(I)Lcom/example/libbuchi/libbuchi/formats/HoaLexer$Kind;"⟩ : MethodName)) (maxL := 1) (as' := #[(.int i)]) (Q := Q_own_kind Z i fk h0 n0) pn_own_kind #[.val (.int i)] (fun m => by first | (simp [entryFrame, mkF, argsToLocals, Value.category]; done) | rfl) ?_
  intro p e s m below meth c T0 X0 hx hby hml hret hlk hown hnm hZ e0
  replace hml : c.maxLocals = 1 := hml
  replace hown : s.vm.findClass "com/example/libbuchi/libbuchi/formats/TokenIsPinLaw" = some m.cls := hown
  have N0 := Fr.nil n0
  refine own_st (G := T0.setTop (mkF m 1 #[.val (.int i)] [(.int i)])) (fun _ kk => XS.iloadN X0.here hx rfl (hb hby down_kind_0) rfl kk) ?_
  by_cases hc1 : i = (0 : Int32)
  · skip
    refine own_st (G := T0.setTop (mkF m 4 #[.val (.int i)] [])) (fun _ kk => XS.ifNo X0.here hx rfl (hb hby down_kind_1) rfl (XT.i0_ne_f hc1) kk) ?_
    obtain ⟨T2, X3, e4, st5⟩ := getS (host := "") X0 hx hZ hown (own_w hw 33 rfl) Via.refl e0 (hK).1 (g := (mkF m 4 #[.val (.int i)] [])) rfl (hb hby down_kind_4)
    refine own_st st5 ?_
    show own_Out _ _ _ _ (T2.setTop (mkF m 7 #[.val (.int i)] [(.ref (fk (0 : Int32)))]))
    refine own_retA X3 hx hret rfl rfl hlk (hb hby down_kind_7) (by decide) (by decide) ?_
    exact ⟨by rw [hc1], rfl, e4⟩
  · skip
    refine own_st (G := T0.setTop (mkF m 8 #[.val (.int i)] [])) (fun _ kk => XS.ifYes X0.here hx rfl (pc0 := 1) (pc' := 8) rfl (hb hby down_kind_1) rfl (XT.i0_ne_t hc1) (by decide) (by decide) kk) ?_
    refine own_st (G := T0.setTop (mkF m 9 #[.val (.int i)] [(.int i)])) (fun _ kk => XS.iloadN X0.here hx rfl (hb hby down_kind_8) rfl kk) ?_
    refine own_st (G := T0.setTop (mkF m 10 #[.val (.int i)] [(.int (1 : Int32)), (.int i)])) (fun _ kk => XT.iconstV X0.here hx rfl (1 : Int32) (hb hby down_kind_9) (by decide) kk) ?_
    by_cases hc6 : i = (1 : Int32)
    · skip
      refine own_st (G := T0.setTop (mkF m 13 #[.val (.int i)] [])) (fun _ kk => XS.icmpNo X0.here hx rfl (hb hby down_kind_10) rfl (XT.ii_ne_f hc6) kk) ?_
      obtain ⟨T7, X8, e9, st10⟩ := getS (host := "") X0 hx hZ hown (own_w hw 89 rfl) Via.refl e0 (hK).2.1 (g := (mkF m 13 #[.val (.int i)] [])) rfl (hb hby down_kind_13)
      refine own_st st10 ?_
      show own_Out _ _ _ _ (T7.setTop (mkF m 16 #[.val (.int i)] [(.ref (fk (1 : Int32)))]))
      refine own_retA X8 hx hret rfl rfl hlk (hb hby down_kind_16) (by decide) (by decide) ?_
      exact ⟨by rw [hc6], rfl, e9⟩
    · skip
      refine own_st (G := T0.setTop (mkF m 17 #[.val (.int i)] [])) (fun _ kk => XS.icmpYes X0.here hx rfl (pc0 := 10) (pc' := 17) rfl (hb hby down_kind_10) rfl (XT.ii_ne_t hc6) (by decide) (by decide) kk) ?_
      refine own_st (G := T0.setTop (mkF m 18 #[.val (.int i)] [(.int i)])) (fun _ kk => XS.iloadN X0.here hx rfl (hb hby down_kind_17) rfl kk) ?_
      refine own_st (G := T0.setTop (mkF m 19 #[.val (.int i)] [(.int (2 : Int32)), (.int i)])) (fun _ kk => XT.iconstV X0.here hx rfl (2 : Int32) (hb hby down_kind_18) (by decide) kk) ?_
      by_cases hc11 : i = (2 : Int32)
      · skip
        refine own_st (G := T0.setTop (mkF m 22 #[.val (.int i)] [])) (fun _ kk => XS.icmpNo X0.here hx rfl (hb hby down_kind_19) rfl (XT.ii_ne_f hc11) kk) ?_
        obtain ⟨T12, X13, e14, st15⟩ := getS (host := "") X0 hx hZ hown (own_w hw 85 rfl) Via.refl e0 (hK).2.2.1 (g := (mkF m 22 #[.val (.int i)] [])) rfl (hb hby down_kind_22)
        refine own_st st15 ?_
        show own_Out _ _ _ _ (T12.setTop (mkF m 25 #[.val (.int i)] [(.ref (fk (2 : Int32)))]))
        refine own_retA X13 hx hret rfl rfl hlk (hb hby down_kind_25) (by decide) (by decide) ?_
        exact ⟨by rw [hc11], rfl, e14⟩
      · skip
        refine own_st (G := T0.setTop (mkF m 26 #[.val (.int i)] [])) (fun _ kk => XS.icmpYes X0.here hx rfl (pc0 := 19) (pc' := 26) rfl (hb hby down_kind_19) rfl (XT.ii_ne_t hc11) (by decide) (by decide) kk) ?_
        refine own_st (G := T0.setTop (mkF m 27 #[.val (.int i)] [(.int i)])) (fun _ kk => XS.iloadN X0.here hx rfl (hb hby down_kind_26) rfl kk) ?_
        refine own_st (G := T0.setTop (mkF m 28 #[.val (.int i)] [(.int (3 : Int32)), (.int i)])) (fun _ kk => XT.iconstV X0.here hx rfl (3 : Int32) (hb hby down_kind_27) (by decide) kk) ?_
        by_cases hc16 : i = (3 : Int32)
        · skip
          refine own_st (G := T0.setTop (mkF m 31 #[.val (.int i)] [])) (fun _ kk => XS.icmpNo X0.here hx rfl (hb hby down_kind_28) rfl (XT.ii_ne_f hc16) kk) ?_
          obtain ⟨T17, X18, e19, st20⟩ := getS (host := "") X0 hx hZ hown (own_w hw 91 rfl) Via.refl e0 (hK).2.2.2.1 (g := (mkF m 31 #[.val (.int i)] [])) rfl (hb hby down_kind_31)
          refine own_st st20 ?_
          show own_Out _ _ _ _ (T17.setTop (mkF m 34 #[.val (.int i)] [(.ref (fk (3 : Int32)))]))
          refine own_retA X18 hx hret rfl rfl hlk (hb hby down_kind_34) (by decide) (by decide) ?_
          exact ⟨by rw [hc16], rfl, e19⟩
        · skip
          refine own_st (G := T0.setTop (mkF m 35 #[.val (.int i)] [])) (fun _ kk => XS.icmpYes X0.here hx rfl (pc0 := 28) (pc' := 35) rfl (hb hby down_kind_28) rfl (XT.ii_ne_t hc16) (by decide) (by decide) kk) ?_
          refine own_st (G := T0.setTop (mkF m 36 #[.val (.int i)] [(.int i)])) (fun _ kk => XS.iloadN X0.here hx rfl (hb hby down_kind_35) rfl kk) ?_
          refine own_st (G := T0.setTop (mkF m 37 #[.val (.int i)] [(.int (4 : Int32)), (.int i)])) (fun _ kk => XT.iconstV X0.here hx rfl (4 : Int32) (hb hby down_kind_36) (by decide) kk) ?_
          by_cases hc21 : i = (4 : Int32)
          · skip
            refine own_st (G := T0.setTop (mkF m 40 #[.val (.int i)] [])) (fun _ kk => XS.icmpNo X0.here hx rfl (hb hby down_kind_37) rfl (XT.ii_ne_f hc21) kk) ?_
            obtain ⟨T22, X23, e24, st25⟩ := getS (host := "") X0 hx hZ hown (own_w hw 79 rfl) Via.refl e0 (hK).2.2.2.2.1 (g := (mkF m 40 #[.val (.int i)] [])) rfl (hb hby down_kind_40)
            refine own_st st25 ?_
            show own_Out _ _ _ _ (T22.setTop (mkF m 43 #[.val (.int i)] [(.ref (fk (4 : Int32)))]))
            refine own_retA X23 hx hret rfl rfl hlk (hb hby down_kind_43) (by decide) (by decide) ?_
            exact ⟨by rw [hc21], rfl, e24⟩
          · skip
            refine own_st (G := T0.setTop (mkF m 44 #[.val (.int i)] [])) (fun _ kk => XS.icmpYes X0.here hx rfl (pc0 := 37) (pc' := 44) rfl (hb hby down_kind_37) rfl (XT.ii_ne_t hc21) (by decide) (by decide) kk) ?_
            refine own_st (G := T0.setTop (mkF m 45 #[.val (.int i)] [(.int i)])) (fun _ kk => XS.iloadN X0.here hx rfl (hb hby down_kind_44) rfl kk) ?_
            refine own_st (G := T0.setTop (mkF m 46 #[.val (.int i)] [(.int (5 : Int32)), (.int i)])) (fun _ kk => XT.iconstV X0.here hx rfl (5 : Int32) (hb hby down_kind_45) (by decide) kk) ?_
            by_cases hc26 : i = (5 : Int32)
            · skip
              refine own_st (G := T0.setTop (mkF m 49 #[.val (.int i)] [])) (fun _ kk => XS.icmpNo X0.here hx rfl (hb hby down_kind_46) rfl (XT.ii_ne_f hc26) kk) ?_
              obtain ⟨T27, X28, e29, st30⟩ := getS (host := "") X0 hx hZ hown (own_w hw 81 rfl) Via.refl e0 (hK).2.2.2.2.2.1 (g := (mkF m 49 #[.val (.int i)] [])) rfl (hb hby down_kind_49)
              refine own_st st30 ?_
              show own_Out _ _ _ _ (T27.setTop (mkF m 52 #[.val (.int i)] [(.ref (fk (5 : Int32)))]))
              refine own_retA X28 hx hret rfl rfl hlk (hb hby down_kind_52) (by decide) (by decide) ?_
              exact ⟨by rw [hc26], rfl, e29⟩
            · skip
              refine own_st (G := T0.setTop (mkF m 53 #[.val (.int i)] [])) (fun _ kk => XS.icmpYes X0.here hx rfl (pc0 := 46) (pc' := 53) rfl (hb hby down_kind_46) rfl (XT.ii_ne_t hc26) (by decide) (by decide) kk) ?_
              refine own_st (G := T0.setTop (mkF m 54 #[.val (.int i)] [(.int i)])) (fun _ kk => XS.iloadN X0.here hx rfl (hb hby down_kind_53) rfl kk) ?_
              refine own_st (G := T0.setTop (mkF m 56 #[.val (.int i)] [(.int (6 : Int32)), (.int i)])) (fun _ kk => XT.bipushV X0.here hx rfl (6 : Int32) (hb hby down_kind_54) (by decide) kk) ?_
              by_cases hc31 : i = (6 : Int32)
              · skip
                refine own_st (G := T0.setTop (mkF m 59 #[.val (.int i)] [])) (fun _ kk => XS.icmpNo X0.here hx rfl (hb hby down_kind_56) rfl (XT.ii_ne_f hc31) kk) ?_
                obtain ⟨T32, X33, e34, st35⟩ := getS (host := "") X0 hx hZ hown (own_w hw 87 rfl) Via.refl e0 (hK).2.2.2.2.2.2.1 (g := (mkF m 59 #[.val (.int i)] [])) rfl (hb hby down_kind_59)
                refine own_st st35 ?_
                show own_Out _ _ _ _ (T32.setTop (mkF m 62 #[.val (.int i)] [(.ref (fk (6 : Int32)))]))
                refine own_retA X33 hx hret rfl rfl hlk (hb hby down_kind_62) (by decide) (by decide) ?_
                exact ⟨by rw [hc31], rfl, e34⟩
              · skip
                refine own_st (G := T0.setTop (mkF m 63 #[.val (.int i)] [])) (fun _ kk => XS.icmpYes X0.here hx rfl (pc0 := 56) (pc' := 63) rfl (hb hby down_kind_56) rfl (XT.ii_ne_t hc31) (by decide) (by decide) kk) ?_
                obtain ⟨T36, X37, e38, st39⟩ := getS (host := "") X0 hx hZ hown (own_w hw 83 rfl) Via.refl e0 (hK).2.2.2.2.2.2.2 (g := (mkF m 63 #[.val (.int i)] [])) rfl (hb hby down_kind_63)
                refine own_st st39 ?_
                show own_Out _ _ _ _ (T36.setTop (mkF m 66 #[.val (.int i)] [(.ref (fk (7 : Int32)))]))
                refine own_retA X37 hx hret rfl rfl hlk (hb hby down_kind_66) (by decide) (by decide) ?_
                exact ⟨by rw [own_last7 i hi hc1 hc6 hc11 hc16 hc21 hc26 hc31], rfl, e38⟩
def own_T (Z : State) (h : Heap) (a : Addr) (f0 : Value) (f1 : Value) (f2 : Int32) (f3 : Int32) : Prop := Exa Z h a "com/example/libbuchi/libbuchi/formats/HoaLexer$Token" ∧ Fld Z h a "com/example/libbuchi/libbuchi/formats/HoaLexer$Token" "kind" "Lcom/example/libbuchi/libbuchi/formats/HoaLexer$Kind;" f0 ∧ Fld Z h a "com/example/libbuchi/libbuchi/formats/HoaLexer$Token" "text" "Ljava/lang/String;" f1 ∧ Fld Z h a "com/example/libbuchi/libbuchi/formats/HoaLexer$Token" "line" "I" (.int f2) ∧ Fld Z h a "com/example/libbuchi/libbuchi/formats/HoaLexer$Token" "column" "I" (.int f3)
theorem own_T_kind {Z : State} {a0 : Array Value} (hw : ∀ d ∈ tables_1, d.before a0 Z = true) {h h' : Heap} {a : Addr} {f0 : Value} {f1 : Value} {f2 : Int32} {f3 : Int32} {y : Value} (W : Wr h h' a (Jvm.RoadKit.slotOf Z "com/example/libbuchi/libbuchi/formats/HoaLexer$Token" "kind" "Lcom/example/libbuchi/libbuchi/formats/HoaLexer$Kind;") y) (O : own_T Z h a f0 f1 f2 f3) : own_T Z h' a y f1 f2 f3 :=
  ⟨(O.1.wr W), ((O).2.1.same W), ((O).2.2.1.other W (Or.inr (slot_ne (Or.inr (own_w hw 48 rfl)) (Or.inr (own_w hw 46 rfl)) (by decide) (t := .object "java/lang/String") (t' := .object "com/example/libbuchi/libbuchi/formats/HoaLexer$Kind") (by decide) (by decide)))), ((O).2.2.2.1.other W (Or.inr (slot_ne (Or.inr (own_w hw 50 rfl)) (Or.inr (own_w hw 46 rfl)) (by decide) (t := .int) (t' := .object "com/example/libbuchi/libbuchi/formats/HoaLexer$Kind") (by decide) (by decide)))), ((O).2.2.2.2.other W (Or.inr (slot_ne (Or.inr (own_w hw 52 rfl)) (Or.inr (own_w hw 46 rfl)) (by decide) (t := .int) (t' := .object "com/example/libbuchi/libbuchi/formats/HoaLexer$Kind") (by decide) (by decide))))⟩
theorem own_T_text {Z : State} {a0 : Array Value} (hw : ∀ d ∈ tables_1, d.before a0 Z = true) {h h' : Heap} {a : Addr} {f0 : Value} {f1 : Value} {f2 : Int32} {f3 : Int32} {y : Value} (W : Wr h h' a (Jvm.RoadKit.slotOf Z "com/example/libbuchi/libbuchi/formats/HoaLexer$Token" "text" "Ljava/lang/String;") y) (O : own_T Z h a f0 f1 f2 f3) : own_T Z h' a f0 y f2 f3 :=
  ⟨(O.1.wr W), ((O).2.1.other W (Or.inr (slot_ne (Or.inr (own_w hw 46 rfl)) (Or.inr (own_w hw 48 rfl)) (by decide) (t := .object "com/example/libbuchi/libbuchi/formats/HoaLexer$Kind") (t' := .object "java/lang/String") (by decide) (by decide)))), ((O).2.2.1.same W), ((O).2.2.2.1.other W (Or.inr (slot_ne (Or.inr (own_w hw 50 rfl)) (Or.inr (own_w hw 48 rfl)) (by decide) (t := .int) (t' := .object "java/lang/String") (by decide) (by decide)))), ((O).2.2.2.2.other W (Or.inr (slot_ne (Or.inr (own_w hw 52 rfl)) (Or.inr (own_w hw 48 rfl)) (by decide) (t := .int) (t' := .object "java/lang/String") (by decide) (by decide))))⟩
theorem own_T_line {Z : State} {a0 : Array Value} (hw : ∀ d ∈ tables_1, d.before a0 Z = true) {h h' : Heap} {a : Addr} {f0 : Value} {f1 : Value} {f2 : Int32} {f3 : Int32} {y : Int32} (W : Wr h h' a (Jvm.RoadKit.slotOf Z "com/example/libbuchi/libbuchi/formats/HoaLexer$Token" "line" "I") (.int y)) (O : own_T Z h a f0 f1 f2 f3) : own_T Z h' a f0 f1 y f3 :=
  ⟨(O.1.wr W), ((O).2.1.other W (Or.inr (slot_ne (Or.inr (own_w hw 46 rfl)) (Or.inr (own_w hw 50 rfl)) (by decide) (t := .object "com/example/libbuchi/libbuchi/formats/HoaLexer$Kind") (t' := .int) (by decide) (by decide)))), ((O).2.2.1.other W (Or.inr (slot_ne (Or.inr (own_w hw 48 rfl)) (Or.inr (own_w hw 50 rfl)) (by decide) (t := .object "java/lang/String") (t' := .int) (by decide) (by decide)))), ((O).2.2.2.1.same W), ((O).2.2.2.2.other W (Or.inr (slot_ne (Or.inr (own_w hw 52 rfl)) (Or.inr (own_w hw 50 rfl)) (by decide) (t := .int) (t' := .int) (by decide) (by decide))))⟩
theorem own_T_column {Z : State} {a0 : Array Value} (hw : ∀ d ∈ tables_1, d.before a0 Z = true) {h h' : Heap} {a : Addr} {f0 : Value} {f1 : Value} {f2 : Int32} {f3 : Int32} {y : Int32} (W : Wr h h' a (Jvm.RoadKit.slotOf Z "com/example/libbuchi/libbuchi/formats/HoaLexer$Token" "column" "I") (.int y)) (O : own_T Z h a f0 f1 f2 f3) : own_T Z h' a f0 f1 f2 y :=
  ⟨(O.1.wr W), ((O).2.1.other W (Or.inr (slot_ne (Or.inr (own_w hw 46 rfl)) (Or.inr (own_w hw 52 rfl)) (by decide) (t := .object "com/example/libbuchi/libbuchi/formats/HoaLexer$Kind") (t' := .int) (by decide) (by decide)))), ((O).2.2.1.other W (Or.inr (slot_ne (Or.inr (own_w hw 48 rfl)) (Or.inr (own_w hw 52 rfl)) (by decide) (t := .object "java/lang/String") (t' := .int) (by decide) (by decide)))), ((O).2.2.2.1.other W (Or.inr (slot_ne (Or.inr (own_w hw 50 rfl)) (Or.inr (own_w hw 52 rfl)) (by decide) (t := .int) (t' := .int) (by decide) (by decide)))), ((O).2.2.2.2.same W)⟩
theorem own_T_ext {Z : State} {h h' : Heap} {a : Addr} {f0 : Value} {f1 : Value} {f2 : Int32} {f3 : Int32} (E : Ext h h') (O : own_T Z h a f0 f1 f2 f3) : own_T Z h' a f0 f1 f2 f3 := ⟨(O).1.ext E, (O).2.1.ext E, (O).2.2.1.ext E, (O).2.2.2.1.ext E, (O).2.2.2.2.ext E⟩
theorem own_T_mon {Z : State} {h h' : Heap} {a : Addr} {f0 : Value} {f1 : Value} {f2 : Int32} {f3 : Int32} (E : Mon h h') (O : own_T Z h a f0 f1 f2 f3) : own_T Z h' a f0 f1 f2 f3 := ⟨(O).1.mon E, (O).2.1.mon E, (O).2.2.1.mon E, (O).2.2.2.1.mon E, (O).2.2.2.2.mon E⟩
theorem own_T_keep {Z : State} {h h' : Heap} {a : Addr} {ws : List Addr} {f0 : Value} {f1 : Value} {f2 : Int32} {f3 : Int32} (K : Keep h h' ws) (q : a ∉ ws) (O : own_T Z h a f0 f1 f2 f3) : own_T Z h' a f0 f1 f2 f3 := ⟨(O).1.keep K, (O).2.1.keep K q, (O).2.2.1.keep K q, (O).2.2.2.1.keep K q, (O).2.2.2.2.keep K q⟩
theorem pn_own_rec : plainFor (⟨"java/lang/Record", "<init>", "()V"⟩ : MethodName) = true := by first | exact plainFor_of_name (by first | (simp [plainName, overriddenIn]; done) | decide +kernel) | decide +kernel
theorem down_rec_0 : decode jdk_30_method_1_code 0 = .ok (.aload_n 0, 1) := by decide +kernel
theorem down_rec_1 : decode jdk_30_method_1_code 1 = .ok (.invokespecial 1, 3) := by decide +kernel
theorem down_rec_4 : decode jdk_30_method_1_code 4 = .ok (.return_, 1) := by decide +kernel
def Q_own_rec (Z : State)  (a : Addr) (h0 : Heap) (n0 : Nat) (v : Option Value) (h : Heap) (L : List Loc) : Prop := v = none ∧ L = [] ∧ h = h0
set_option maxRecDepth 65536 in
set_option maxHeartbeats 40000000 in
theorem own_rec (l : Launch) (Z : State) (a0 : Array Value) (hw : ∀ d ∈ tables_1, d.before a0 Z = true) (ws : List Jvm.Cond)  (a : Addr) (h0 : Heap) (n0 : Nat)  :
    MetFree l (⟨"java/lang/Record", "<init>", "()V"⟩ : MethodName) (head1 (Jvm.Cond.code (⟨"java/lang/Record", "<init>", "()V"⟩ : MethodName) jdk_30_method_1_code 1 none :: ws) ({ frames := 1, cells := 0, slots := 0, locals := 12 } : Room)) (fun aa U => aa = #[(.ref a)] ∧ Z.Warmed39 U.vm ∧ U.heap = h0) (fun _ _ _ _ _ => True) (fun _ U o U' => ∃ v L, o = .returned v ∧ Q_own_rec Z a h0 n0 v U'.heap L ∧ FrameEnd U o U' L ({ frames := 1, cells := 0, slots := 0, locals := 12 } : Room).cells ({ frames := 1, cells := 0, slots := 0, locals := 12 } : Room).slots) := by
  refine own_body (x := (⟨"java/lang/Record", "<init>", "()V"⟩ : MethodName)) (maxL := 1) (as' := #[(.ref a)]) (Q := Q_own_rec Z a h0 n0) pn_own_rec #[.val (.ref a)] (fun m => by first | (simp [entryFrame, mkF, argsToLocals, Value.category]; done) | rfl) ?_
  intro p e s m below meth c T0 X0 hx hby hml hret hlk hown hnm hZ e0
  replace hml : c.maxLocals = 1 := hml
  replace hown : s.vm.findClass "java/lang/Record" = some m.cls := hown
  have N0 := Fr.nil n0
  refine own_st (G := T0.setTop (mkF m 1 #[.val (.ref a)] [(.ref a)])) (fun _ kk => XS.aloadN X0.here hx rfl (hb hby down_rec_0) rfl rfl kk) ?_
  obtain ⟨T1, X2, e3, st4⟩ := initO X0 hx hZ hown (own_w hw 44 rfl) (own_w hw 17 rfl) (own_w hw 18 rfl) e0 (g := (mkF m 1 #[.val (.ref a)] [(.ref a)])) rfl (by rw [hml]; rfl) rfl (hb hby down_rec_1) (by decide) (W := 0) (by show 2 * 0 + _ ≤ _; exact Nat.le_of_eq rfl) (by decide)
  refine own_st st4 ?_
  show own_Out _ _ _ _ (T1.setTop (mkF m 4 #[.val (.ref a)] []))
  refine own_ret0 X2 hx hret hlk (hb hby down_rec_4) (by decide) (by decide) ?_
  exact ⟨rfl, rfl, e3⟩
theorem pn_own_init : plainFor (⟨"com/example/libbuchi/libbuchi/formats/HoaLexer$Token", "<init>", "(Lcom/example/libbuchi/libbuchi/formats/HoaLexer$Kind;Ljava/lang/String;II)V"⟩ : MethodName) = true := by first | exact plainFor_of_name (by first | (simp [plainName, overriddenIn]; done) | decide +kernel) | decide +kernel
theorem down_init_0 : decode prog_70_method_1_code 0 = .ok (.aload_n 0, 1) := by decide +kernel
theorem down_init_1 : decode prog_70_method_1_code 1 = .ok (.invokespecial 1, 3) := by decide +kernel
theorem down_init_4 : decode prog_70_method_1_code 4 = .ok (.aload_n 0, 1) := by decide +kernel
theorem down_init_5 : decode prog_70_method_1_code 5 = .ok (.aload_n 1, 1) := by decide +kernel
theorem down_init_6 : decode prog_70_method_1_code 6 = .ok (.putfield 7, 3) := by decide +kernel
theorem down_init_9 : decode prog_70_method_1_code 9 = .ok (.aload_n 0, 1) := by decide +kernel
theorem down_init_10 : decode prog_70_method_1_code 10 = .ok (.aload_n 2, 1) := by decide +kernel
theorem down_init_11 : decode prog_70_method_1_code 11 = .ok (.putfield 13, 3) := by decide +kernel
theorem down_init_14 : decode prog_70_method_1_code 14 = .ok (.aload_n 0, 1) := by decide +kernel
theorem down_init_15 : decode prog_70_method_1_code 15 = .ok (.iload_n 3, 1) := by decide +kernel
theorem down_init_16 : decode prog_70_method_1_code 16 = .ok (.putfield 17, 3) := by decide +kernel
theorem down_init_19 : decode prog_70_method_1_code 19 = .ok (.aload_n 0, 1) := by decide +kernel
theorem down_init_20 : decode prog_70_method_1_code 20 = .ok (.iload 4, 2) := by decide +kernel
theorem down_init_22 : decode prog_70_method_1_code 22 = .ok (.putfield 21, 3) := by decide +kernel
theorem down_init_25 : decode prog_70_method_1_code 25 = .ok (.return_, 1) := by decide +kernel
def Q_own_init (Z : State) (ln : Int32) (cl : Int32) (a : Addr) (f0 : Value) (f1 : Value) (f2 : Int32) (f3 : Int32) (q1 q2 : Addr) (h0 : Heap) (n0 : Nat) (v : Option Value) (h : Heap) (L : List Loc) : Prop := v = none ∧ Fr n0 L ∧ own_T Z h a (.ref q1) (.ref q2) ln cl ∧ Keep h0 h [a]
set_option maxRecDepth 65536 in
set_option maxHeartbeats 40000000 in
theorem own_init (l : Launch) (Z : State) (a0 : Array Value) (hw : ∀ d ∈ tables_1, d.before a0 Z = true) (ws : List Jvm.Cond) (ln : Int32) (cl : Int32) (a : Addr) (f0 : Value) (f1 : Value) (f2 : Int32) (f3 : Int32) (q1 q2 : Addr) (h0 : Heap) (n0 : Nat) (ga : n0 ≤ a) (O : own_T Z h0 a f0 f1 f2 f3)  :
    MetFree l (⟨"com/example/libbuchi/libbuchi/formats/HoaLexer$Token", "<init>", "(Lcom/example/libbuchi/libbuchi/formats/HoaLexer$Kind;Ljava/lang/String;II)V"⟩ : MethodName) (head1 (Jvm.Cond.code (⟨"com/example/libbuchi/libbuchi/formats/HoaLexer$Token", "<init>", "(Lcom/example/libbuchi/libbuchi/formats/HoaLexer$Kind;Ljava/lang/String;II)V"⟩ : MethodName) prog_70_method_1_code 5 none :: ws) ({ frames := 2, cells := 0, slots := 0, locals := 24 } : Room)) (fun aa U => aa = #[(.ref a), (.ref q1), (.ref q2), (.int ln), (.int cl)] ∧ Z.Warmed39 U.vm ∧ U.heap = h0) (fun _ _ _ _ _ => True) (fun _ U o U' => ∃ v L, o = .returned v ∧ Q_own_init Z ln cl a f0 f1 f2 f3 q1 q2 h0 n0 v U'.heap L ∧ FrameEnd U o U' L ({ frames := 2, cells := 0, slots := 0, locals := 24 } : Room).cells ({ frames := 2, cells := 0, slots := 0, locals := 24 } : Room).slots) := by
  refine own_body (x := (⟨"com/example/libbuchi/libbuchi/formats/HoaLexer$Token", "<init>", "(Lcom/example/libbuchi/libbuchi/formats/HoaLexer$Kind;Ljava/lang/String;II)V"⟩ : MethodName)) (maxL := 5) (as' := #[(.ref a), (.ref q1), (.ref q2), (.int ln), (.int cl)]) (Q := Q_own_init Z ln cl a f0 f1 f2 f3 q1 q2 h0 n0) pn_own_init #[.val (.ref a), .val (.ref q1), .val (.ref q2), .val (.int ln), .val (.int cl)] (fun m => by first | (simp [entryFrame, mkF, argsToLocals, Value.category]; done) | rfl) ?_
  intro p e s m below meth c T0 X0 hx hby hml hret hlk hown hnm hZ e0
  replace hml : c.maxLocals = 5 := hml
  replace hown : s.vm.findClass "com/example/libbuchi/libbuchi/formats/HoaLexer$Token" = some m.cls := hown
  have N0 := Fr.nil n0
  have K0 := Keep.refl h0 [a]
  refine own_st (G := T0.setTop (mkF m 1 #[.val (.ref a), .val (.ref q1), .val (.ref q2), .val (.int ln), .val (.int cl)] [(.ref a)])) (fun _ kk => XS.aloadN X0.here hx rfl (hb hby down_init_0) rfl rfl kk) ?_
  refine own_callI X0 hx hZ (y := (⟨"java/lang/Record", "<init>", "()V"⟩ : MethodName)) (b := a) (as' := []) rfl hown (own_w hw 39 rfl) (own_w hw 40 rfl) (own_w hw 43 rfl) (own_w hw 42 rfl) (by decide) (own_rec l Z a0 hw [] a h0 n0) 0 (by decide) (by decide) (by decide) (by decide) (rest := []) (by rw [hml]; rfl) (lenOf (by decide : parseMethodDescriptor "()V" = some ⟨[], none⟩) rfl) rfl (Nat.le_of_eq rfl) (hb hby down_init_1) e0 ?_
  intro T3 L4 v6 X5 hQ
  obtain ⟨rfl, rfl, eq1⟩ := hQ
  show own_Out _ _ _ _ (T3.setTop (mkF m 4 #[.val (.ref a), .val (.ref q1), .val (.ref q2), .val (.int ln), .val (.int cl)] []))
  have N2 := Fr.app N0 (Fr.nil n0)
  refine own_st (G := T3.setTop (mkF m 5 #[.val (.ref a), .val (.ref q1), .val (.ref q2), .val (.int ln), .val (.int cl)] [(.ref a)])) (fun _ kk => XS.aloadN X5.here hx rfl (hb hby down_init_4) rfl rfl kk) ?_
  refine own_st (G := T3.setTop (mkF m 6 #[.val (.ref a), .val (.ref q1), .val (.ref q2), .val (.int ln), .val (.int cl)] [(.ref q1), (.ref a)])) (fun _ kk => XS.aloadN X5.here hx rfl (hb hby down_init_5) rfl rfl kk) ?_
  obtain ⟨T7, h8, X9, e10, W11, st12⟩ := putF X5 hx hZ hown (host := "") (Or.inl (own_w hw 45 rfl)) Via.refl eq1 (O).2.1 (O).1 (Or.inr ⟨(own_w hw 46 rfl), rfl, hnm⟩) (own_w hw 28 rfl) (ty := .object "com/example/libbuchi/libbuchi/formats/HoaLexer$Kind") (by decide) rfl rfl (g := (mkF m 6 #[.val (.ref a), .val (.ref q1), .val (.ref q2), .val (.int ln), .val (.int cl)] [(.ref q1), (.ref a)])) rfl rfl (hb hby down_init_6)
  refine own_st st12 ?_
  show own_Out _ _ _ _ (T7.setTop (mkF m 9 #[.val (.ref a), .val (.ref q1), .val (.ref q2), .val (.int ln), .val (.int cl)] []))
  have O13 : own_T Z h8 a (.ref q1) f1 f2 f3 := own_T_kind hw W11 O
  have N14 := Fr.snoc X9 N2 ga
  have K15 := K0.wr W11 (Or.inl (List.mem_singleton.mpr rfl))
  refine own_st (G := T7.setTop (mkF m 10 #[.val (.ref a), .val (.ref q1), .val (.ref q2), .val (.int ln), .val (.int cl)] [(.ref a)])) (fun _ kk => XS.aloadN X9.here hx rfl (hb hby down_init_9) rfl rfl kk) ?_
  refine own_st (G := T7.setTop (mkF m 11 #[.val (.ref a), .val (.ref q1), .val (.ref q2), .val (.int ln), .val (.int cl)] [(.ref q2), (.ref a)])) (fun _ kk => XS.aloadN X9.here hx rfl (hb hby down_init_10) rfl rfl kk) ?_
  obtain ⟨T16, h17, X18, e19, W20, st21⟩ := putF X9 hx hZ hown (host := "") (Or.inl (own_w hw 47 rfl)) Via.refl e10 (O13).2.2.1 (O13).1 (Or.inr ⟨(own_w hw 48 rfl), rfl, hnm⟩) (own_w hw 28 rfl) (ty := .object "java/lang/String") (by decide) rfl rfl (g := (mkF m 11 #[.val (.ref a), .val (.ref q1), .val (.ref q2), .val (.int ln), .val (.int cl)] [(.ref q2), (.ref a)])) rfl rfl (hb hby down_init_11)
  refine own_st st21 ?_
  show own_Out _ _ _ _ (T16.setTop (mkF m 14 #[.val (.ref a), .val (.ref q1), .val (.ref q2), .val (.int ln), .val (.int cl)] []))
  have O22 : own_T Z h17 a (.ref q1) (.ref q2) f2 f3 := own_T_text hw W20 O13
  have N23 := Fr.snoc X18 N14 ga
  have K24 := K15.wr W20 (Or.inl (List.mem_singleton.mpr rfl))
  refine own_st (G := T16.setTop (mkF m 15 #[.val (.ref a), .val (.ref q1), .val (.ref q2), .val (.int ln), .val (.int cl)] [(.ref a)])) (fun _ kk => XS.aloadN X18.here hx rfl (hb hby down_init_14) rfl rfl kk) ?_
  refine own_st (G := T16.setTop (mkF m 16 #[.val (.ref a), .val (.ref q1), .val (.ref q2), .val (.int ln), .val (.int cl)] [(.int ln), (.ref a)])) (fun _ kk => XS.iloadN X18.here hx rfl (hb hby down_init_15) rfl kk) ?_
  obtain ⟨T25, h26, X27, e28, W29, st30⟩ := putF X18 hx hZ hown (host := "") (Or.inl (own_w hw 49 rfl)) Via.refl e19 (O22).2.2.2.1 (O22).1 (Or.inr ⟨(own_w hw 50 rfl), rfl, hnm⟩) (own_w hw 28 rfl) (ty := .int) (by decide) rfl rfl (g := (mkF m 16 #[.val (.ref a), .val (.ref q1), .val (.ref q2), .val (.int ln), .val (.int cl)] [(.int ln), (.ref a)])) rfl rfl (hb hby down_init_16)
  refine own_st st30 ?_
  show own_Out _ _ _ _ (T25.setTop (mkF m 19 #[.val (.ref a), .val (.ref q1), .val (.ref q2), .val (.int ln), .val (.int cl)] []))
  have O31 : own_T Z h26 a (.ref q1) (.ref q2) ln f3 := own_T_line hw W29 O22
  have N32 := Fr.snoc X27 N23 ga
  have K33 := K24.wr W29 (Or.inl (List.mem_singleton.mpr rfl))
  refine own_st (G := T25.setTop (mkF m 20 #[.val (.ref a), .val (.ref q1), .val (.ref q2), .val (.int ln), .val (.int cl)] [(.ref a)])) (fun _ kk => XS.aloadN X27.here hx rfl (hb hby down_init_19) rfl rfl kk) ?_
  refine own_st (G := T25.setTop (mkF m 22 #[.val (.ref a), .val (.ref q1), .val (.ref q2), .val (.int ln), .val (.int cl)] [(.int cl), (.ref a)])) (fun _ kk => XS.iload X27.here hx rfl (hb hby down_init_20) rfl kk) ?_
  obtain ⟨T34, h35, X36, e37, W38, st39⟩ := putF X27 hx hZ hown (host := "") (Or.inl (own_w hw 51 rfl)) Via.refl e28 (O31).2.2.2.2 (O31).1 (Or.inr ⟨(own_w hw 52 rfl), rfl, hnm⟩) (own_w hw 28 rfl) (ty := .int) (by decide) rfl rfl (g := (mkF m 22 #[.val (.ref a), .val (.ref q1), .val (.ref q2), .val (.int ln), .val (.int cl)] [(.int cl), (.ref a)])) rfl rfl (hb hby down_init_22)
  refine own_st st39 ?_
  show own_Out _ _ _ _ (T34.setTop (mkF m 25 #[.val (.ref a), .val (.ref q1), .val (.ref q2), .val (.int ln), .val (.int cl)] []))
  have O40 : own_T Z h35 a (.ref q1) (.ref q2) ln cl := own_T_column hw W38 O31
  have N41 := Fr.snoc X36 N32 ga
  have K42 := K33.wr W38 (Or.inl (List.mem_singleton.mpr rfl))
  refine own_ret0 X36 hx hret hlk (hb hby down_init_25) (by decide) (by decide) ?_
  rw [e37]
  exact ⟨rfl, N41, O40, K42⟩
theorem pn_own_is : plainFor (⟨"com/example/libbuchi/libbuchi/formats/HoaLexer$Token", "is", "(Lcom/example/libbuchi/libbuchi/formats/HoaLexer$Kind;Ljava/lang/String;)Z"⟩ : MethodName) = true := by first | exact plainFor_of_name (by first | (simp [plainName, overriddenIn]; done) | decide +kernel) | decide +kernel
theorem down_is_0 : decode prog_70_method_3_code 0 = .ok (.aload_n 0, 1) := by decide +kernel
theorem down_is_1 : decode prog_70_method_3_code 1 = .ok (.getfield 7, 3) := by decide +kernel
theorem down_is_4 : decode prog_70_method_3_code 4 = .ok (.aload_n 1, 1) := by decide +kernel
theorem down_is_5 : decode prog_70_method_3_code 5 = .ok (.if_acmp .ne 18, 3) := by decide +kernel
theorem down_is_8 : decode prog_70_method_3_code 8 = .ok (.aload_n 0, 1) := by decide +kernel
theorem down_is_9 : decode prog_70_method_3_code 9 = .ok (.getfield 13, 3) := by decide +kernel
theorem down_is_12 : decode prog_70_method_3_code 12 = .ok (.aload_n 2, 1) := by decide +kernel
theorem down_is_13 : decode prog_70_method_3_code 13 = .ok (.invokevirtual 29, 3) := by decide +kernel
theorem down_is_16 : decode prog_70_method_3_code 16 = .ok (.ifCond .eq 7, 3) := by decide +kernel
theorem down_is_19 : decode prog_70_method_3_code 19 = .ok (.iconst 1, 1) := by decide +kernel
theorem down_is_20 : decode prog_70_method_3_code 20 = .ok (.goto 4, 3) := by decide +kernel
theorem down_is_23 : decode prog_70_method_3_code 23 = .ok (.iconst 0, 1) := by decide +kernel
theorem down_is_24 : decode prog_70_method_3_code 24 = .ok (.ireturn, 1) := by decide +kernel
def Q_own_is (Z : State)  (t q1 q2 a1 a2 b1 b2 : Addr) (u w : Int32) (n1 n2 : Nat) (f1 f2 : Nat → Int32) (cs : Int32) (h0 : Heap) (n0 : Nat) (v : Option Value) (h : Heap) (L : List Loc) : Prop := ∃ r : Int32, v = some (.int r) ∧ (r = 0 ∨ r = 1) ∧ L = [] ∧ h = h0 ∧ (r = 1 → (q1 = q2 ∧ (n1 = n2 ∧ ∀ i, i < n1 → f1 i = f2 i))) ∧ ((q1 = q2 ∧ (n1 = n2 ∧ ∀ i, i < n1 → f1 i = f2 i)) → r = 1)
set_option maxRecDepth 65536 in
set_option maxHeartbeats 40000000 in
theorem own_is (l : Launch) (Z : State) (a0 : Array Value) (hw : ∀ d ∈ tables_1, d.before a0 Z = true) (ws : List Jvm.Cond)  (t q1 q2 a1 a2 b1 b2 : Addr) (u w : Int32) (n1 n2 : Nat) (f1 f2 : Nat → Int32) (cs : Int32) (h0 : Heap) (n0 : Nat) (O : own_T Z h0 t (.ref q1) (.ref a1) u w) (O1 : own_S0 Z h0 a1 (.ref b1) (0 : Int32)) (O2 : own_S0 Z h0 a2 (.ref b2) (0 : Int32)) (F1 : own_AW Z h0 b1 n1 f1) (F2 : own_AW Z h0 b2 n2 f2) (h1 : n1 ≤ 2) (h2 : n2 ≤ 2) (hne : a1 ≠ a2) (CS : Sta Z h0 "java/lang/String" "COMPACT_STRINGS" "Z" (.int cs)) (hcs : ¬ cs = (0 : Int32)) :
    MetFree l (⟨"com/example/libbuchi/libbuchi/formats/HoaLexer$Token", "is", "(Lcom/example/libbuchi/libbuchi/formats/HoaLexer$Kind;Ljava/lang/String;)Z"⟩ : MethodName) (head1 (Jvm.Cond.code (⟨"com/example/libbuchi/libbuchi/formats/HoaLexer$Token", "is", "(Lcom/example/libbuchi/libbuchi/formats/HoaLexer$Kind;Ljava/lang/String;)Z"⟩ : MethodName) prog_70_method_3_code 3 (some (.boolean)) :: ws) ({ frames := 2, cells := 0, slots := 0, locals := 28 } : Room)) (fun aa U => aa = #[(.ref t), (.ref q2), (.ref a2)] ∧ Z.Warmed39 U.vm ∧ U.heap = h0) (fun _ _ _ _ _ => True) (fun _ U o U' => ∃ v L, o = .returned v ∧ Q_own_is Z t q1 q2 a1 a2 b1 b2 u w n1 n2 f1 f2 cs h0 n0 v U'.heap L ∧ FrameEnd U o U' L ({ frames := 2, cells := 0, slots := 0, locals := 28 } : Room).cells ({ frames := 2, cells := 0, slots := 0, locals := 28 } : Room).slots) := by
  refine own_body (x := (⟨"com/example/libbuchi/libbuchi/formats/HoaLexer$Token", "is", "(Lcom/example/libbuchi/libbuchi/formats/HoaLexer$Kind;Ljava/lang/String;)Z"⟩ : MethodName)) (maxL := 3) (as' := #[(.ref t), (.ref q2), (.ref a2)]) (Q := Q_own_is Z t q1 q2 a1 a2 b1 b2 u w n1 n2 f1 f2 cs h0 n0) pn_own_is #[.val (.ref t), .val (.ref q2), .val (.ref a2)] (fun m => by first | (simp [entryFrame, mkF, argsToLocals, Value.category]; done) | rfl) ?_
  intro p e s m below meth c T0 X0 hx hby hml hret hlk hown hnm hZ e0
  replace hml : c.maxLocals = 3 := hml
  replace hown : s.vm.findClass "com/example/libbuchi/libbuchi/formats/HoaLexer$Token" = some m.cls := hown
  have N0 := Fr.nil n0
  refine own_st (G := T0.setTop (mkF m 1 #[.val (.ref t), .val (.ref q2), .val (.ref a2)] [(.ref t)])) (fun _ kk => XS.aloadN X0.here hx rfl (hb hby down_is_0) rfl rfl kk) ?_
  obtain ⟨T1, X2, e3, st4⟩ := getF X0 hx hZ hown (host := "") (Or.inl (own_w hw 45 rfl)) Via.refl e0 (O).2.1 (g := (mkF m 1 #[.val (.ref t), .val (.ref q2), .val (.ref a2)] [(.ref t)])) rfl rfl (hb hby down_is_1)
  refine own_st st4 ?_
  show own_Out _ _ _ _ (T1.setTop (mkF m 4 #[.val (.ref t), .val (.ref q2), .val (.ref a2)] [(.ref q1)]))
  refine own_st (G := T1.setTop (mkF m 5 #[.val (.ref t), .val (.ref q2), .val (.ref a2)] [(.ref q2), (.ref q1)])) (fun _ kk => XS.aloadN X2.here hx rfl (hb hby down_is_4) rfl rfl kk) ?_
  by_cases hc5 : ((.ref q1) : Value) = (.ref q2)
  · skip
    refine own_st (G := T1.setTop (mkF m 8 #[.val (.ref t), .val (.ref q2), .val (.ref a2)] [])) (fun _ kk => XT.acmpNo X2.here hx rfl (hb hby down_is_5) rfl rfl rfl (XT.aa_ne_f hc5) kk) ?_
    refine own_st (G := T1.setTop (mkF m 9 #[.val (.ref t), .val (.ref q2), .val (.ref a2)] [(.ref t)])) (fun _ kk => XS.aloadN X2.here hx rfl (hb hby down_is_8) rfl rfl kk) ?_
    obtain ⟨T6, X7, e8, st9⟩ := getF X2 hx hZ hown (host := "") (Or.inl (own_w hw 47 rfl)) Via.refl e3 (O).2.2.1 (g := (mkF m 9 #[.val (.ref t), .val (.ref q2), .val (.ref a2)] [(.ref t)])) rfl rfl (hb hby down_is_9)
    refine own_st st9 ?_
    show own_Out _ _ _ _ (T6.setTop (mkF m 12 #[.val (.ref t), .val (.ref q2), .val (.ref a2)] [(.ref a1)]))
    refine own_st (G := T6.setTop (mkF m 13 #[.val (.ref t), .val (.ref q2), .val (.ref a2)] [(.ref a2), (.ref a1)])) (fun _ kk => XS.aloadN X7.here hx rfl (hb hby down_is_12) rfl rfl kk) ?_
    refine own_callV X7 hx hZ (y := (⟨"java/lang/String", "equals", "(Ljava/lang/Object;)Z"⟩ : MethodName)) (b := a1) (as' := [(.ref a2)]) hown (own_w hw 58 rfl) (own_w hw 59 rfl) (own_w hw 61 rfl) (own_w hw 60 rfl) (own_w hw 62 rfl) (own_w hw 7 rfl) (by decide) (own_eq l Z a0 hw [] a1 a2 b1 b2 n1 n2 f1 f2 cs h0 n0 O1 O2 F1 F2 h1 h2 hne CS hcs) (O1).1 0 (by decide) (by decide) (by decide) (by decide) (rest := []) (by rw [hml]; rfl) (lenOf (by decide : parseMethodDescriptor "(Ljava/lang/Object;)Z" = some ⟨[.object "java/lang/Object"], some (.boolean)⟩) rfl) rfl (Nat.le_of_eq rfl) (hb hby down_is_13) e8 ?_
    intro T11 L12 v14 X13 hQ
    obtain ⟨r, rfl, hr, rfl, eq10, s1, s2⟩ := hQ
    show own_Out _ _ _ _ (T11.setTop (mkF m 16 #[.val (.ref t), .val (.ref q2), .val (.ref a2)] [(.int r)]))
    by_cases hc15 : r = (0 : Int32)
    · skip
      refine own_st (G := T11.setTop (mkF m 23 #[.val (.ref t), .val (.ref q2), .val (.ref a2)] [])) (fun _ kk => XS.ifYes X13.here hx rfl (pc0 := 16) (pc' := 23) rfl (hb hby down_is_16) rfl (XT.i0_eq_t hc15) (by decide) (by decide) kk) ?_
      refine own_st (G := T11.setTop (mkF m 24 #[.val (.ref t), .val (.ref q2), .val (.ref a2)] [(.int (0 : Int32))])) (fun _ kk => XT.iconstV X13.here hx rfl (0 : Int32) (hb hby down_is_23) (by decide) kk) ?_
      refine own_retB X13 hx hret (by simp) hlk (hb hby down_is_24) (by decide) (by decide) ?_
      exact ⟨_, rfl, Or.inl rfl, rfl, eq10, fun z => absurd z (by decide), fun z => absurd (hc15.symm.trans (s2 z.2)) (by decide)⟩
    · skip
      refine own_st (G := T11.setTop (mkF m 19 #[.val (.ref t), .val (.ref q2), .val (.ref a2)] [])) (fun _ kk => XS.ifNo X13.here hx rfl (hb hby down_is_16) rfl (XT.i0_eq_f hc15) kk) ?_
      refine own_st (G := T11.setTop (mkF m 20 #[.val (.ref t), .val (.ref q2), .val (.ref a2)] [(.int (1 : Int32))])) (fun _ kk => XT.iconstV X13.here hx rfl (1 : Int32) (hb hby down_is_19) (by decide) kk) ?_
      refine own_st (G := T11.setTop (mkF m 24 #[.val (.ref t), .val (.ref q2), .val (.ref a2)] [(.int (1 : Int32))])) (fun _ kk => XS.goto X13.here hx rfl (pc0 := 20) (pc' := 24) rfl (hb hby down_is_20) (by decide) (by decide) kk) ?_
      refine own_retB X13 hx hret (by simp) hlk (hb hby down_is_24) (by decide) (by decide) ?_
      exact ⟨_, rfl, Or.inr rfl, rfl, eq10, fun _ => ⟨Value.ref.inj hc5, s1 (hr.resolve_left hc15)⟩, fun _ => rfl⟩
  · skip
    refine own_st (G := T1.setTop (mkF m 23 #[.val (.ref t), .val (.ref q2), .val (.ref a2)] [])) (fun _ kk => XT.acmpYes X2.here hx rfl (pc0 := 5) (pc' := 23) rfl (hb hby down_is_5) rfl rfl rfl (XT.aa_ne_t hc5) (by decide) (by decide) kk) ?_
    refine own_st (G := T1.setTop (mkF m 24 #[.val (.ref t), .val (.ref q2), .val (.ref a2)] [(.int (0 : Int32))])) (fun _ kk => XT.iconstV X2.here hx rfl (0 : Int32) (hb hby down_is_23) (by decide) kk) ?_
    refine own_retB X2 hx hret (by simp) hlk (hb hby down_is_24) (by decide) (by decide) ?_
    exact ⟨_, rfl, Or.inl rfl, rfl, e3, fun z => absurd z (by decide), fun z => absurd (by rw [z.1]) hc5⟩
theorem own_eqi {args : Array Value} {s : State} {t : Term} {C n d : String} {k : Int32} {a : Addr} (h : (Jvm.Cond.eq (Jvm.Term.field t C n d) (Jvm.Term.int k)).value args s none s [] = some true) (ht : t.eval args s none [] s = some (.ref a)) : s.fieldOf? a C n d = some (.int k) := by
  obtain ⟨x, y, h1, h2, k1, k2⟩ := cmp_v (Or.inl h)
  obtain rfl : y = .int k := (Option.some.inj h2).symm
  obtain ⟨z, rfl⟩ := k2
  have hz := gotT (Cond.eq_ints h1 (Term.int_eval k)) h
  subst hz
  rw [← fld_at ht]
  exact h1
theorem own_fne {Z : State} {h : Heap} {a b : Addr} {C n d : String} {x y : Int32} (F : Fld Z h a C n d (.int x)) (G : Fld Z h b C n d (.int y)) (hn : x ≠ y) : a ≠ b := fun e => by
  subst e
  obtain ⟨c1, _, _, _, f1, h1, h2, -, -, -, -, h3⟩ := F
  obtain ⟨c2, _, _, _, f2, g1, g2, -, -, -, -, g3⟩ := G
  cases h1.symm.trans g1
  cases h2.symm.trans g2
  cases h3.symm.trans g3
  exact hn rfl
theorem own_r8 (q v : Int32) (hv : (q &&& (7 : Int32)) = v) : 0 ≤ v.toInt ∧ v.toInt < 8 := by
  have e : v.toInt = q.toInt % 2 ^ 3 := by rw [← hv]; exact Jvm.Kit.i32_mask q 7 (k := 3) (by decide) (by decide)
  omega
theorem own_r8z (q v z : Int32) {c : Prop} [Decidable c] (hr : 0 ≤ v.toInt ∧ v.toInt < 8) (hz : z = (if c then (q &&& (7 : Int32)) else v)) : 0 ≤ z.toInt ∧ z.toInt < 8 := by
  split at hz
  · exact own_r8 q z hz.symm
  · rw [hz]; exact hr
theorem own_rc (q v : Int32) (hv : (q &&& (255 : Int32)).toUInt32.toUInt16.toUInt32.toInt32 = v) : 0 ≤ v.toInt ∧ v.toInt < 256 := by
  have e : (q &&& (255 : Int32)).toInt = q.toInt % 2 ^ 8 := Jvm.Kit.i32_mask q 255 (k := 8) (by decide) (by decide)
  have hc := c_i2c (q &&& (255 : Int32))
  rw [hv] at hc
  omega
theorem own_rcz (q v z : Int32) {c : Prop} [Decidable c] (hr : 0 ≤ v.toInt ∧ v.toInt < 256) (hz : z = (if c then (q &&& (255 : Int32)).toUInt32.toUInt16.toUInt32.toInt32 else v)) : 0 ≤ z.toInt ∧ z.toInt < 256 := by
  split at hz
  · exact own_rc q z hz.symm
  · rw [hz]; exact hr
theorem own_t3 (v : Int32) (h : 0 ≤ v.toInt ∧ v.toInt < 3) : v = 0 ∨ v = 1 ∨ v = 2 := by
  simp only [← Int32.toInt_inj, Int32.reduceToInt]
  omega
theorem own_m3 (q v : Int32) (hq : 0 ≤ q.toInt) (hv : (q % (3 : Int32)) = v) : v = 0 ∨ v = 1 ∨ v = 2 := by
  have e2 : v.toInt = q.toInt % 3 := by rw [← hv, Jvm.Kit.i32_rem_nonneg hq]; rfl
  exact own_t3 v (by omega)
theorem own_r3 (p v : Int32) (hv : ((p &&& (2147483647 : Int32)) % (3 : Int32)) = v) : v = 0 ∨ v = 1 ∨ v = 2 := by
  have e1 : (p &&& (2147483647 : Int32)).toInt = p.toInt % 2 ^ 31 := Jvm.Kit.i32_mask p 2147483647 (k := 31) (by decide) (by decide)
  exact own_m3 _ v (by omega) hv
theorem own_us3 (p : Int32) : 0 ≤ (XT.ushr p (3 : Int32)).toInt := by
  have h : (p.toUInt32 >>> ((3 : Int32) &&& 31).toUInt32).toNat < 2 ^ 29 := by
    rw [UInt32.toNat_shiftRight, show (((3 : Int32) &&& 31).toUInt32).toNat % 32 = 3 from by decide, Nat.shiftRight_eq_div_pow]
    have := p.toUInt32.toNat_lt
    omega
  have e : (XT.ushr p (3 : Int32)).toInt = (((p.toUInt32 >>> ((3 : Int32) &&& 31).toUInt32).toNat : Nat) : Int) := by
    show (p.toUInt32 >>> ((3 : Int32) &&& 31).toUInt32).toBitVec.toInt = _
    rw [BitVec.toInt_eq_toNat_of_lt (by show 2 * (p.toUInt32 >>> ((3 : Int32) &&& 31).toUInt32).toNat < _; omega)]
    rfl
  omega
theorem own_r3z (p v z : Int32) (hv : ((p &&& (2147483647 : Int32)) % (3 : Int32)) = v) {c : Prop} [Decidable c] (hz : z = (if c then ((XT.ushr p (3 : Int32)) % (3 : Int32)) else v)) : z = 0 ∨ z = 1 ∨ z = 2 := by
  split at hz
  · exact own_m3 _ z (own_us3 p) hz.symm
  · rw [hz]; exact own_r3 p v hv
theorem own_n2 {n : Int32} (h : n = 0 ∨ n = 1 ∨ n = 2) : n.toNatClampNeg ≤ 2 := by
  rcases h with rfl | rfl | rfl <;> decide
theorem own_by_inj {x y : Int32} (hX : 0 ≤ x.toInt ∧ x.toInt < 256) (hY : 0 ≤ y.toInt ∧ y.toInt < 256) (h : own_by x = own_by y) : x = y := by
  unfold own_by at h
  rw [own_narc hX, own_narc hY] at h
  replace h : x.toInt8.toInt32.toInt8.toInt32 = y.toInt8.toInt32.toInt8.toInt32 := h
  have a1 := c_i2b x
  have a2 := c_i2b x.toInt8.toInt32
  have b1 := c_i2b y
  have b2 := c_i2b y.toInt8.toInt32
  rw [h] at a2
  simp only [← Int32.toInt_inj]
  omega
theorem own_plain {Z : State} {fk : Int32 → Addr} (hord : ∀ i : Int32, 0 ≤ i.toInt ∧ i.toInt < 8 → Fld Z Z.heap (fk i) "java/lang/Enum" "ordinal" "I" (.int i)) {k1 k2 n1 n2 s0 s1 e0 e1 r z186 z226 z245 : Int32} (g1 : 0 ≤ k1.toInt ∧ k1.toInt < 8) (g2 : 0 ≤ k2.toInt ∧ k2.toInt < 8) (m1 : n1 = 0 ∨ n1 = 1 ∨ n1 = 2) (m2 : n2 = 0 ∨ n2 = 1 ∨ n2 = 2)
    (c0 : 0 ≤ s0.toInt ∧ s0.toInt < 256) (c1 : 0 ≤ s1.toInt ∧ s1.toInt < 256) (d0 : 0 ≤ e0.toInt ∧ e0.toInt < 256) (d1 : 0 ≤ e1.toInt ∧ e1.toInt < 256) (hr : r = 0 ∨ r = 1)
    (q1 : r = 1 → (fk k1 = fk k2 ∧ (n1.toNatClampNeg = n2.toNatClampNeg ∧ ∀ i, i < n1.toNatClampNeg → own_sf s0 s1 i = own_sf e0 e1 i))) (q2 : (fk k1 = fk k2 ∧ (n1.toNatClampNeg = n2.toNatClampNeg ∧ ∀ i, i < n1.toNatClampNeg → own_sf s0 s1 i = own_sf e0 e1 i)) → r = 1)
    (h186 : z186 = (if k1 = k2 then (1 : Int32) else (0 : Int32)))
    (h226 : z226 = (if n1 = n2 then (if n1 < (1 : Int32) then (if n1 < (2 : Int32) then (1 : Int32) else (if s1 = e1 then (1 : Int32) else (0 : Int32))) else (if s0 = e0 then (if n1 < (2 : Int32) then (1 : Int32) else (if s1 = e1 then (1 : Int32) else (0 : Int32))) else (0 : Int32))) else (0 : Int32)))
    (h245 : z245 = (if k1 = k2 then (if z226 = (0 : Int32) then (0 : Int32) else (1 : Int32)) else (0 : Int32))) : r = z245 := by
  have hk : fk k1 = fk k2 ↔ k1 = k2 := ⟨fun e => Classical.byContradiction fun q => own_fne (hord k1 g1) (hord k2 g2) q e, fun e => by rw [e]⟩
  have b0 : own_by s0 = own_by e0 ↔ s0 = e0 := ⟨own_by_inj c0 d0, fun e => by rw [e]⟩
  have b1 : own_by s1 = own_by e1 ↔ s1 = e1 := ⟨own_by_inj c1 d1, fun e => by rw [e]⟩
  have hs : (n1.toNatClampNeg = n2.toNatClampNeg ∧ ∀ i, i < n1.toNatClampNeg → own_sf s0 s1 i = own_sf e0 e1 i) ↔ (n1 = n2 ∧ (n1 < 1 ∨ s0 = e0) ∧ (n1 < 2 ∨ s1 = e1)) := by
    rcases m1 with rfl | rfl | rfl
    · rcases m2 with rfl | rfl | rfl
      · exact ⟨fun _ => ⟨rfl, Or.inl (by decide), Or.inl (by decide)⟩, fun _ => ⟨rfl, fun i hi => absurd hi (Nat.not_lt_zero _)⟩⟩
      · exact ⟨fun h => absurd h.1 (by decide), fun h => absurd h.1 (by decide)⟩
      · exact ⟨fun h => absurd h.1 (by decide), fun h => absurd h.1 (by decide)⟩
    · rcases m2 with rfl | rfl | rfl
      · exact ⟨fun h => absurd h.1 (by decide), fun h => absurd h.1 (by decide)⟩
      · exact ⟨fun h => ⟨rfl, Or.inr (b0.mp (h.2 0 (by decide))), Or.inl (by decide)⟩, fun h => ⟨rfl, fun i hi => own_lt1 (P := fun i => own_sf s0 s1 i = own_sf e0 e1 i) (b0.mpr (h.2.1.resolve_left (by decide))) i hi⟩⟩
      · exact ⟨fun h => absurd h.1 (by decide), fun h => absurd h.1 (by decide)⟩
    · rcases m2 with rfl | rfl | rfl
      · exact ⟨fun h => absurd h.1 (by decide), fun h => absurd h.1 (by decide)⟩
      · exact ⟨fun h => absurd h.1 (by decide), fun h => absurd h.1 (by decide)⟩
      · exact ⟨fun h => ⟨rfl, Or.inr (b0.mp (h.2 0 (by decide))), Or.inr (b1.mp (h.2 1 (by decide)))⟩, fun h => ⟨rfl, fun i hi => own_lt2 (P := fun i => own_sf s0 s1 i = own_sf e0 e1 i) (b0.mpr (h.2.1.resolve_left (by decide))) (b1.mpr (h.2.2.resolve_left (by decide))) i hi⟩⟩
  have e226 : z226 = if (n1 = n2 ∧ (n1 < 1 ∨ s0 = e0) ∧ (n1 < 2 ∨ s1 = e1)) then 1 else 0 := by
    rw [h226]
    by_cases x1 : n1 = n2 <;> by_cases x2 : n1 < 1 <;> by_cases x3 : s0 = e0 <;> by_cases x4 : n1 < 2 <;> by_cases x5 : s1 = e1 <;> simp only [x1, x2, x3, x4, x5, if_true, if_false, true_or, or_true, false_or, or_false, true_and, and_true, false_and, and_false, or_self, and_self] <;> (try subst x1) <;> (try simp only [x2, x4, if_true, if_false, true_or, or_true, false_or, or_false, true_and, and_true, false_and, and_false, or_self, and_self])
  rw [h245]
  by_cases A : k1 = k2
  · rw [if_pos A]
    by_cases B : (n1 = n2 ∧ (n1 < 1 ∨ s0 = e0) ∧ (n1 < 2 ∨ s1 = e1))
    · rw [e226, if_pos B, if_neg (by decide)]; exact q2 ⟨hk.mpr A, hs.mpr B⟩
    · rw [e226, if_neg B, if_pos rfl]; exact hr.resolve_right fun z => B (hs.mp (q1 z).2)
  · rw [if_neg A]; exact hr.resolve_right fun z => A (hk.mp (q1 z).1)
def own_fk (x0 x1 x2 x3 x4 x5 x6 x7 : Addr) (i : Int32) : Addr := if i = (0 : Int32) then x0 else if i = (1 : Int32) then x1 else if i = (2 : Int32) then x2 else if i = (3 : Int32) then x3 else if i = (4 : Int32) then x4 else if i = (5 : Int32) then x5 else if i = (6 : Int32) then x6 else x7
theorem own_eight (i : Int32) (hr : 0 ≤ i.toInt ∧ i.toInt < 8) : i = 0 ∨ i = 1 ∨ i = 2 ∨ i = 3 ∨ i = 4 ∨ i = 5 ∨ i = 6 ∨ i = 7 := by
  simp only [← Int32.toInt_inj, Int32.reduceToInt]
  omega
theorem pn_own_law : plainFor x = true := by first | exact plainFor_of_name (by first | (simp [plainName, overriddenIn]; done) | decide +kernel) | decide +kernel
def Q_own_law (Z : State) (p0 : Int32) (p1 : Int32) (p2 : Int32) (p3 : Int32) (p4 : Int32) (p5 : Int32) (cs : Int32) (fk : Int32 → Addr) (h0 : Heap) (n0 : Nat) (v : Option Value) (h : Heap) (L : List Loc) : Prop := v = some (.int 1) ∧ Fr n0 L
set_option maxRecDepth 65536 in
set_option maxHeartbeats 40000000 in
theorem own_law (l : Launch) (Z : State) (a0 : Array Value) (hw : ∀ d ∈ tables_1, d.before a0 Z = true) (ws : List Jvm.Cond) (p0 : Int32) (p1 : Int32) (p2 : Int32) (p3 : Int32) (p4 : Int32) (p5 : Int32) (cs : Int32) (fk : Int32 → Addr) (h0 : Heap) (n0 : Nat) (hn0 : n0 = Z.heap.size) (CS : Sta Z Z.heap "java/lang/String" "COMPACT_STRINGS" "Z" (.int cs)) (hcs : ¬ cs = (0 : Int32)) (held : Jvm.Lit.constHeld Z "java/lang/String" 7) (hcw : Jvm.Lit.compactW.before a0 Z = true) (hK : own_K Z Z.heap fk) (hord : ∀ i : Int32, 0 ≤ i.toInt ∧ i.toInt < 8 → Fld Z Z.heap (fk i) "java/lang/Enum" "ordinal" "I" (.int i)) :
    MetFree l x (head1 (Jvm.Cond.code x code maxLocals ret :: ws) room_1) (fun aa U => aa = #[(.int p0), (.int p1), (.int p2), (.int p3), (.int p4), (.int p5)] ∧ U = Z) (fun _ _ _ _ _ => True) (fun _ U o U' => own_QW (Q_own_law Z p0 p1 p2 p3 p4 p5 cs fk h0 n0) U room_1.cells room_1.slots o U') := by
  refine own_bodyW (x := x) (maxL := maxLocals) (as' := #[(.int p0), (.int p1), (.int p2), (.int p3), (.int p4), (.int p5)]) (Q := Q_own_law Z p0 p1 p2 p3 p4 p5 cs fk h0 n0) pn_own_law #[.val (.int p0), .val (.int p1), .val (.int p2), .val (.int p3), .val (.int p4), .val (.int p5), .unset, .unset, .unset, .unset, .unset, .unset, .unset, .unset, .unset, .unset, .unset, .unset, .unset, .unset] (fun m => by first | (simp [entryFrame, mkF, argsToLocals, Value.category, maxLocals]; done) | rfl) ?_
  intro p e m below meth c T0 X0 hx hby hml hret hlk hown hnm hZ e0
  replace hml : c.maxLocals = 20 := hml
  replace hown : Z.vm.findClass "com/example/libbuchi/libbuchi/formats/TokenIsPinLaw" = some m.cls := hown
  have N0 := Fr.nil n0
  refine own_st (G := T0.setTop (mkF m 1 #[.val (.int p0), .val (.int p1), .val (.int p2), .val (.int p3), .val (.int p4), .val (.int p5), .unset, .unset, .unset, .unset, .unset, .unset, .unset, .unset, .unset, .unset, .unset, .unset, .unset, .unset] [(.int p0)])) (fun _ kk => XS.iloadN X0.here hx rfl (hb hby at_0) rfl kk) ?_
  refine own_st (G := T0.setTop (mkF m 3 #[.val (.int p0), .val (.int p1), .val (.int p2), .val (.int p3), .val (.int p4), .val (.int p5), .unset, .unset, .unset, .unset, .unset, .unset, .unset, .unset, .unset, .unset, .unset, .unset, .unset, .unset] [(.int (7 : Int32)), (.int p0)])) (fun _ kk => XT.bipushV X0.here hx rfl (7 : Int32) (hb hby at_1) (by decide) kk) ?_
  refine own_st (G := T0.setTop (mkF m 4 #[.val (.int p0), .val (.int p1), .val (.int p2), .val (.int p3), .val (.int p4), .val (.int p5), .unset, .unset, .unset, .unset, .unset, .unset, .unset, .unset, .unset, .unset, .unset, .unset, .unset, .unset] [(.int (p0 &&& (7 : Int32)))])) (fun _ kk => XS.iand X0.here hx rfl (hb hby at_3) rfl kk) ?_
  generalize hv4 : (p0 &&& (7 : Int32)) = v4
  refine own_st (G := T0.setTop (mkF m 6 #[.val (.int p0), .val (.int p1), .val (.int p2), .val (.int p3), .val (.int p4), .val (.int p5), .val (.int v4), .unset, .unset, .unset, .unset, .unset, .unset, .unset, .unset, .unset, .unset, .unset, .unset, .unset] [])) (fun _ kk => XS.istore X0.here hx rfl (hb hby at_4) rfl (l' := #[.val (.int p0), .val (.int p1), .val (.int p2), .val (.int p3), .val (.int p4), .val (.int p5), .val (.int v4), .unset, .unset, .unset, .unset, .unset, .unset, .unset, .unset, .unset, .unset, .unset, .unset, .unset]) rfl kk) ?_
  refine own_st (G := T0.setTop (mkF m 7 #[.val (.int p0), .val (.int p1), .val (.int p2), .val (.int p3), .val (.int p4), .val (.int p5), .val (.int v4), .unset, .unset, .unset, .unset, .unset, .unset, .unset, .unset, .unset, .unset, .unset, .unset, .unset] [(.int p0)])) (fun _ kk => XS.iloadN X0.here hx rfl (hb hby at_6) rfl kk) ?_
  refine own_st (G := T0.setTop (mkF m 8 #[.val (.int p0), .val (.int p1), .val (.int p2), .val (.int p3), .val (.int p4), .val (.int p5), .val (.int v4), .unset, .unset, .unset, .unset, .unset, .unset, .unset, .unset, .unset, .unset, .unset, .unset, .unset] [(.int (3 : Int32)), (.int p0)])) (fun _ kk => XT.iconstV X0.here hx rfl (3 : Int32) (hb hby at_7) (by decide) kk) ?_
  refine own_st (G := T0.setTop (mkF m 9 #[.val (.int p0), .val (.int p1), .val (.int p2), .val (.int p3), .val (.int p4), .val (.int p5), .val (.int v4), .unset, .unset, .unset, .unset, .unset, .unset, .unset, .unset, .unset, .unset, .unset, .unset, .unset] [(.int (XT.ushr p0 (3 : Int32)))])) (fun _ kk => XT.iushr X0.here hx rfl (hb hby at_8) rfl kk) ?_
  refine own_st (G := T0.setTop (mkF m 10 #[.val (.int p0), .val (.int p1), .val (.int p2), .val (.int p3), .val (.int p4), .val (.int p5), .val (.int v4), .unset, .unset, .unset, .unset, .unset, .unset, .unset, .unset, .unset, .unset, .unset, .unset, .unset] [(.int (1 : Int32)), (.int (XT.ushr p0 (3 : Int32)))])) (fun _ kk => XT.iconstV X0.here hx rfl (1 : Int32) (hb hby at_9) (by decide) kk) ?_
  refine own_st (G := T0.setTop (mkF m 11 #[.val (.int p0), .val (.int p1), .val (.int p2), .val (.int p3), .val (.int p4), .val (.int p5), .val (.int v4), .unset, .unset, .unset, .unset, .unset, .unset, .unset, .unset, .unset, .unset, .unset, .unset, .unset] [(.int ((XT.ushr p0 (3 : Int32)) &&& (1 : Int32)))])) (fun _ kk => XS.iand X0.here hx rfl (hb hby at_10) rfl kk) ?_
  have j25 : ∀ (z25 : Int32), z25 = (if ((XT.ushr p0 (3 : Int32)) &&& (1 : Int32)) = (0 : Int32) then ((XT.ushr p0 (4 : Int32)) &&& (7 : Int32)) else v4) → own_Out p e below (own_QW (Q_own_law Z p0 p1 p2 p3 p4 p5 cs fk h0 n0) Z room_1.cells room_1.slots) (T0.setTop (mkF m 25 #[.val (.int p0), .val (.int p1), .val (.int p2), .val (.int p3), .val (.int p4), .val (.int p5), .val (.int v4), .unset, .unset, .unset, .unset, .unset, .unset, .unset, .unset, .unset, .unset, .unset, .unset, .unset] [(.int z25)])) := by
    intro z25 hz25
    refine own_st (G := T0.setTop (mkF m 27 #[.val (.int p0), .val (.int p1), .val (.int p2), .val (.int p3), .val (.int p4), .val (.int p5), .val (.int v4), .val (.int z25), .unset, .unset, .unset, .unset, .unset, .unset, .unset, .unset, .unset, .unset, .unset, .unset] [])) (fun _ kk => XS.istore X0.here hx rfl (hb hby at_25) rfl (l' := #[.val (.int p0), .val (.int p1), .val (.int p2), .val (.int p3), .val (.int p4), .val (.int p5), .val (.int v4), .val (.int z25), .unset, .unset, .unset, .unset, .unset, .unset, .unset, .unset, .unset, .unset, .unset, .unset]) rfl kk) ?_
    refine own_st (G := T0.setTop (mkF m 28 #[.val (.int p0), .val (.int p1), .val (.int p2), .val (.int p3), .val (.int p4), .val (.int p5), .val (.int v4), .val (.int z25), .unset, .unset, .unset, .unset, .unset, .unset, .unset, .unset, .unset, .unset, .unset, .unset] [(.int p1)])) (fun _ kk => XS.iloadN X0.here hx rfl (hb hby at_27) rfl kk) ?_
    refine own_st (G := T0.setTop (mkF m 30 #[.val (.int p0), .val (.int p1), .val (.int p2), .val (.int p3), .val (.int p4), .val (.int p5), .val (.int v4), .val (.int z25), .unset, .unset, .unset, .unset, .unset, .unset, .unset, .unset, .unset, .unset, .unset, .unset] [(.int (2147483647 : Int32)), (.int p1)])) (fun _ kk => X0.ldcInt hx hown (mvT hZ (own_w hw 0 rfl)) (g := (mkF m 28 #[.val (.int p0), .val (.int p1), .val (.int p2), .val (.int p3), .val (.int p4), .val (.int p5), .val (.int v4), .val (.int z25), .unset, .unset, .unset, .unset, .unset, .unset, .unset, .unset, .unset, .unset, .unset, .unset] [(.int p1)])) rfl (hb hby at_28) _ kk) ?_
    refine own_st (G := T0.setTop (mkF m 31 #[.val (.int p0), .val (.int p1), .val (.int p2), .val (.int p3), .val (.int p4), .val (.int p5), .val (.int v4), .val (.int z25), .unset, .unset, .unset, .unset, .unset, .unset, .unset, .unset, .unset, .unset, .unset, .unset] [(.int (p1 &&& (2147483647 : Int32)))])) (fun _ kk => XS.iand X0.here hx rfl (hb hby at_30) rfl kk) ?_
    refine own_st (G := T0.setTop (mkF m 32 #[.val (.int p0), .val (.int p1), .val (.int p2), .val (.int p3), .val (.int p4), .val (.int p5), .val (.int v4), .val (.int z25), .unset, .unset, .unset, .unset, .unset, .unset, .unset, .unset, .unset, .unset, .unset, .unset] [(.int (3 : Int32)), (.int (p1 &&& (2147483647 : Int32)))])) (fun _ kk => XT.iconstV X0.here hx rfl (3 : Int32) (hb hby at_31) (by decide) kk) ?_
    refine own_st (G := T0.setTop (mkF m 33 #[.val (.int p0), .val (.int p1), .val (.int p2), .val (.int p3), .val (.int p4), .val (.int p5), .val (.int v4), .val (.int z25), .unset, .unset, .unset, .unset, .unset, .unset, .unset, .unset, .unset, .unset, .unset, .unset] [(.int ((p1 &&& (2147483647 : Int32)) % (3 : Int32)))])) (fun _ kk => iremM X0 hx rfl (hb hby at_32) rfl (by decide) kk) ?_
    generalize hv33 : ((p1 &&& (2147483647 : Int32)) % (3 : Int32)) = v33
    refine own_st (G := T0.setTop (mkF m 35 #[.val (.int p0), .val (.int p1), .val (.int p2), .val (.int p3), .val (.int p4), .val (.int p5), .val (.int v4), .val (.int z25), .val (.int v33), .unset, .unset, .unset, .unset, .unset, .unset, .unset, .unset, .unset, .unset, .unset] [])) (fun _ kk => XS.istore X0.here hx rfl (hb hby at_33) rfl (l' := #[.val (.int p0), .val (.int p1), .val (.int p2), .val (.int p3), .val (.int p4), .val (.int p5), .val (.int v4), .val (.int z25), .val (.int v33), .unset, .unset, .unset, .unset, .unset, .unset, .unset, .unset, .unset, .unset, .unset]) rfl kk) ?_
    refine own_st (G := T0.setTop (mkF m 36 #[.val (.int p0), .val (.int p1), .val (.int p2), .val (.int p3), .val (.int p4), .val (.int p5), .val (.int v4), .val (.int z25), .val (.int v33), .unset, .unset, .unset, .unset, .unset, .unset, .unset, .unset, .unset, .unset, .unset] [(.int p1)])) (fun _ kk => XS.iloadN X0.here hx rfl (hb hby at_35) rfl kk) ?_
    refine own_st (G := T0.setTop (mkF m 37 #[.val (.int p0), .val (.int p1), .val (.int p2), .val (.int p3), .val (.int p4), .val (.int p5), .val (.int v4), .val (.int z25), .val (.int v33), .unset, .unset, .unset, .unset, .unset, .unset, .unset, .unset, .unset, .unset, .unset] [(.int (2 : Int32)), (.int p1)])) (fun _ kk => XT.iconstV X0.here hx rfl (2 : Int32) (hb hby at_36) (by decide) kk) ?_
    refine own_st (G := T0.setTop (mkF m 38 #[.val (.int p0), .val (.int p1), .val (.int p2), .val (.int p3), .val (.int p4), .val (.int p5), .val (.int v4), .val (.int z25), .val (.int v33), .unset, .unset, .unset, .unset, .unset, .unset, .unset, .unset, .unset, .unset, .unset] [(.int (XT.ushr p1 (2 : Int32)))])) (fun _ kk => XT.iushr X0.here hx rfl (hb hby at_37) rfl kk) ?_
    refine own_st (G := T0.setTop (mkF m 39 #[.val (.int p0), .val (.int p1), .val (.int p2), .val (.int p3), .val (.int p4), .val (.int p5), .val (.int v4), .val (.int z25), .val (.int v33), .unset, .unset, .unset, .unset, .unset, .unset, .unset, .unset, .unset, .unset, .unset] [(.int (1 : Int32)), (.int (XT.ushr p1 (2 : Int32)))])) (fun _ kk => XT.iconstV X0.here hx rfl (1 : Int32) (hb hby at_38) (by decide) kk) ?_
    refine own_st (G := T0.setTop (mkF m 40 #[.val (.int p0), .val (.int p1), .val (.int p2), .val (.int p3), .val (.int p4), .val (.int p5), .val (.int v4), .val (.int z25), .val (.int v33), .unset, .unset, .unset, .unset, .unset, .unset, .unset, .unset, .unset, .unset, .unset] [(.int ((XT.ushr p1 (2 : Int32)) &&& (1 : Int32)))])) (fun _ kk => XS.iand X0.here hx rfl (hb hby at_39) rfl kk) ?_
    have j53 : ∀ (z53 : Int32), z53 = (if ((XT.ushr p1 (2 : Int32)) &&& (1 : Int32)) = (0 : Int32) then ((XT.ushr p1 (3 : Int32)) % (3 : Int32)) else v33) → own_Out p e below (own_QW (Q_own_law Z p0 p1 p2 p3 p4 p5 cs fk h0 n0) Z room_1.cells room_1.slots) (T0.setTop (mkF m 53 #[.val (.int p0), .val (.int p1), .val (.int p2), .val (.int p3), .val (.int p4), .val (.int p5), .val (.int v4), .val (.int z25), .val (.int v33), .unset, .unset, .unset, .unset, .unset, .unset, .unset, .unset, .unset, .unset, .unset] [(.int z53)])) := by
      intro z53 hz53
      refine own_st (G := T0.setTop (mkF m 55 #[.val (.int p0), .val (.int p1), .val (.int p2), .val (.int p3), .val (.int p4), .val (.int p5), .val (.int v4), .val (.int z25), .val (.int v33), .val (.int z53), .unset, .unset, .unset, .unset, .unset, .unset, .unset, .unset, .unset, .unset] [])) (fun _ kk => XS.istore X0.here hx rfl (hb hby at_53) rfl (l' := #[.val (.int p0), .val (.int p1), .val (.int p2), .val (.int p3), .val (.int p4), .val (.int p5), .val (.int v4), .val (.int z25), .val (.int v33), .val (.int z53), .unset, .unset, .unset, .unset, .unset, .unset, .unset, .unset, .unset, .unset]) rfl kk) ?_
      refine own_st (G := T0.setTop (mkF m 56 #[.val (.int p0), .val (.int p1), .val (.int p2), .val (.int p3), .val (.int p4), .val (.int p5), .val (.int v4), .val (.int z25), .val (.int v33), .val (.int z53), .unset, .unset, .unset, .unset, .unset, .unset, .unset, .unset, .unset, .unset] [(.int p2)])) (fun _ kk => XS.iloadN X0.here hx rfl (hb hby at_55) rfl kk) ?_
      refine own_st (G := T0.setTop (mkF m 59 #[.val (.int p0), .val (.int p1), .val (.int p2), .val (.int p3), .val (.int p4), .val (.int p5), .val (.int v4), .val (.int z25), .val (.int v33), .val (.int z53), .unset, .unset, .unset, .unset, .unset, .unset, .unset, .unset, .unset, .unset] [(.int (255 : Int32)), (.int p2)])) (fun _ kk => XT.sipushV X0.here hx rfl (255 : Int32) (hb hby at_56) (by decide) kk) ?_
      refine own_st (G := T0.setTop (mkF m 60 #[.val (.int p0), .val (.int p1), .val (.int p2), .val (.int p3), .val (.int p4), .val (.int p5), .val (.int v4), .val (.int z25), .val (.int v33), .val (.int z53), .unset, .unset, .unset, .unset, .unset, .unset, .unset, .unset, .unset, .unset] [(.int (p2 &&& (255 : Int32)))])) (fun _ kk => XS.iand X0.here hx rfl (hb hby at_59) rfl kk) ?_
      refine own_st (G := T0.setTop (mkF m 61 #[.val (.int p0), .val (.int p1), .val (.int p2), .val (.int p3), .val (.int p4), .val (.int p5), .val (.int v4), .val (.int z25), .val (.int v33), .val (.int z53), .unset, .unset, .unset, .unset, .unset, .unset, .unset, .unset, .unset, .unset] [(.int (p2 &&& (255 : Int32)).toUInt32.toUInt16.toUInt32.toInt32)])) (fun _ kk => XS.i2c X0.here hx rfl (hb hby at_60) rfl kk) ?_
      generalize hv61 : (p2 &&& (255 : Int32)).toUInt32.toUInt16.toUInt32.toInt32 = v61
      refine own_st (G := T0.setTop (mkF m 63 #[.val (.int p0), .val (.int p1), .val (.int p2), .val (.int p3), .val (.int p4), .val (.int p5), .val (.int v4), .val (.int z25), .val (.int v33), .val (.int z53), .val (.int v61), .unset, .unset, .unset, .unset, .unset, .unset, .unset, .unset, .unset] [])) (fun _ kk => XS.istore X0.here hx rfl (hb hby at_61) rfl (l' := #[.val (.int p0), .val (.int p1), .val (.int p2), .val (.int p3), .val (.int p4), .val (.int p5), .val (.int v4), .val (.int z25), .val (.int v33), .val (.int z53), .val (.int v61), .unset, .unset, .unset, .unset, .unset, .unset, .unset, .unset, .unset]) rfl kk) ?_
      refine own_st (G := T0.setTop (mkF m 64 #[.val (.int p0), .val (.int p1), .val (.int p2), .val (.int p3), .val (.int p4), .val (.int p5), .val (.int v4), .val (.int z25), .val (.int v33), .val (.int z53), .val (.int v61), .unset, .unset, .unset, .unset, .unset, .unset, .unset, .unset, .unset] [(.int p2)])) (fun _ kk => XS.iloadN X0.here hx rfl (hb hby at_63) rfl kk) ?_
      refine own_st (G := T0.setTop (mkF m 66 #[.val (.int p0), .val (.int p1), .val (.int p2), .val (.int p3), .val (.int p4), .val (.int p5), .val (.int v4), .val (.int z25), .val (.int v33), .val (.int z53), .val (.int v61), .unset, .unset, .unset, .unset, .unset, .unset, .unset, .unset, .unset] [(.int (8 : Int32)), (.int p2)])) (fun _ kk => XT.bipushV X0.here hx rfl (8 : Int32) (hb hby at_64) (by decide) kk) ?_
      refine own_st (G := T0.setTop (mkF m 67 #[.val (.int p0), .val (.int p1), .val (.int p2), .val (.int p3), .val (.int p4), .val (.int p5), .val (.int v4), .val (.int z25), .val (.int v33), .val (.int z53), .val (.int v61), .unset, .unset, .unset, .unset, .unset, .unset, .unset, .unset, .unset] [(.int (XT.ushr p2 (8 : Int32)))])) (fun _ kk => XT.iushr X0.here hx rfl (hb hby at_66) rfl kk) ?_
      refine own_st (G := T0.setTop (mkF m 70 #[.val (.int p0), .val (.int p1), .val (.int p2), .val (.int p3), .val (.int p4), .val (.int p5), .val (.int v4), .val (.int z25), .val (.int v33), .val (.int z53), .val (.int v61), .unset, .unset, .unset, .unset, .unset, .unset, .unset, .unset, .unset] [(.int (255 : Int32)), (.int (XT.ushr p2 (8 : Int32)))])) (fun _ kk => XT.sipushV X0.here hx rfl (255 : Int32) (hb hby at_67) (by decide) kk) ?_
      refine own_st (G := T0.setTop (mkF m 71 #[.val (.int p0), .val (.int p1), .val (.int p2), .val (.int p3), .val (.int p4), .val (.int p5), .val (.int v4), .val (.int z25), .val (.int v33), .val (.int z53), .val (.int v61), .unset, .unset, .unset, .unset, .unset, .unset, .unset, .unset, .unset] [(.int ((XT.ushr p2 (8 : Int32)) &&& (255 : Int32)))])) (fun _ kk => XS.iand X0.here hx rfl (hb hby at_70) rfl kk) ?_
      refine own_st (G := T0.setTop (mkF m 72 #[.val (.int p0), .val (.int p1), .val (.int p2), .val (.int p3), .val (.int p4), .val (.int p5), .val (.int v4), .val (.int z25), .val (.int v33), .val (.int z53), .val (.int v61), .unset, .unset, .unset, .unset, .unset, .unset, .unset, .unset, .unset] [(.int ((XT.ushr p2 (8 : Int32)) &&& (255 : Int32)).toUInt32.toUInt16.toUInt32.toInt32)])) (fun _ kk => XS.i2c X0.here hx rfl (hb hby at_71) rfl kk) ?_
      generalize hv72 : ((XT.ushr p2 (8 : Int32)) &&& (255 : Int32)).toUInt32.toUInt16.toUInt32.toInt32 = v72
      refine own_st (G := T0.setTop (mkF m 74 #[.val (.int p0), .val (.int p1), .val (.int p2), .val (.int p3), .val (.int p4), .val (.int p5), .val (.int v4), .val (.int z25), .val (.int v33), .val (.int z53), .val (.int v61), .val (.int v72), .unset, .unset, .unset, .unset, .unset, .unset, .unset, .unset] [])) (fun _ kk => XS.istore X0.here hx rfl (hb hby at_72) rfl (l' := #[.val (.int p0), .val (.int p1), .val (.int p2), .val (.int p3), .val (.int p4), .val (.int p5), .val (.int v4), .val (.int z25), .val (.int v33), .val (.int z53), .val (.int v61), .val (.int v72), .unset, .unset, .unset, .unset, .unset, .unset, .unset, .unset]) rfl kk) ?_
      refine own_st (G := T0.setTop (mkF m 75 #[.val (.int p0), .val (.int p1), .val (.int p2), .val (.int p3), .val (.int p4), .val (.int p5), .val (.int v4), .val (.int z25), .val (.int v33), .val (.int z53), .val (.int v61), .val (.int v72), .unset, .unset, .unset, .unset, .unset, .unset, .unset, .unset] [(.int p3)])) (fun _ kk => XS.iloadN X0.here hx rfl (hb hby at_74) rfl kk) ?_
      refine own_st (G := T0.setTop (mkF m 76 #[.val (.int p0), .val (.int p1), .val (.int p2), .val (.int p3), .val (.int p4), .val (.int p5), .val (.int v4), .val (.int z25), .val (.int v33), .val (.int z53), .val (.int v61), .val (.int v72), .unset, .unset, .unset, .unset, .unset, .unset, .unset, .unset] [(.int (1 : Int32)), (.int p3)])) (fun _ kk => XT.iconstV X0.here hx rfl (1 : Int32) (hb hby at_75) (by decide) kk) ?_
      refine own_st (G := T0.setTop (mkF m 77 #[.val (.int p0), .val (.int p1), .val (.int p2), .val (.int p3), .val (.int p4), .val (.int p5), .val (.int v4), .val (.int z25), .val (.int v33), .val (.int z53), .val (.int v61), .val (.int v72), .unset, .unset, .unset, .unset, .unset, .unset, .unset, .unset] [(.int (p3 &&& (1 : Int32)))])) (fun _ kk => XS.iand X0.here hx rfl (hb hby at_76) rfl kk) ?_
      have j94 : ∀ (z94 : Int32), z94 = (if (p3 &&& (1 : Int32)) = (0 : Int32) then ((XT.ushr p3 (8 : Int32)) &&& (255 : Int32)).toUInt32.toUInt16.toUInt32.toInt32 else v61) → own_Out p e below (own_QW (Q_own_law Z p0 p1 p2 p3 p4 p5 cs fk h0 n0) Z room_1.cells room_1.slots) (T0.setTop (mkF m 94 #[.val (.int p0), .val (.int p1), .val (.int p2), .val (.int p3), .val (.int p4), .val (.int p5), .val (.int v4), .val (.int z25), .val (.int v33), .val (.int z53), .val (.int v61), .val (.int v72), .unset, .unset, .unset, .unset, .unset, .unset, .unset, .unset] [(.int z94)])) := by
        intro z94 hz94
        refine own_st (G := T0.setTop (mkF m 96 #[.val (.int p0), .val (.int p1), .val (.int p2), .val (.int p3), .val (.int p4), .val (.int p5), .val (.int v4), .val (.int z25), .val (.int v33), .val (.int z53), .val (.int v61), .val (.int v72), .val (.int z94), .unset, .unset, .unset, .unset, .unset, .unset, .unset] [])) (fun _ kk => XS.istore X0.here hx rfl (hb hby at_94) rfl (l' := #[.val (.int p0), .val (.int p1), .val (.int p2), .val (.int p3), .val (.int p4), .val (.int p5), .val (.int v4), .val (.int z25), .val (.int v33), .val (.int z53), .val (.int v61), .val (.int v72), .val (.int z94), .unset, .unset, .unset, .unset, .unset, .unset, .unset]) rfl kk) ?_
        refine own_st (G := T0.setTop (mkF m 97 #[.val (.int p0), .val (.int p1), .val (.int p2), .val (.int p3), .val (.int p4), .val (.int p5), .val (.int v4), .val (.int z25), .val (.int v33), .val (.int z53), .val (.int v61), .val (.int v72), .val (.int z94), .unset, .unset, .unset, .unset, .unset, .unset, .unset] [(.int p3)])) (fun _ kk => XS.iloadN X0.here hx rfl (hb hby at_96) rfl kk) ?_
        refine own_st (G := T0.setTop (mkF m 98 #[.val (.int p0), .val (.int p1), .val (.int p2), .val (.int p3), .val (.int p4), .val (.int p5), .val (.int v4), .val (.int z25), .val (.int v33), .val (.int z53), .val (.int v61), .val (.int v72), .val (.int z94), .unset, .unset, .unset, .unset, .unset, .unset, .unset] [(.int (2 : Int32)), (.int p3)])) (fun _ kk => XT.iconstV X0.here hx rfl (2 : Int32) (hb hby at_97) (by decide) kk) ?_
        refine own_st (G := T0.setTop (mkF m 99 #[.val (.int p0), .val (.int p1), .val (.int p2), .val (.int p3), .val (.int p4), .val (.int p5), .val (.int v4), .val (.int z25), .val (.int v33), .val (.int z53), .val (.int v61), .val (.int v72), .val (.int z94), .unset, .unset, .unset, .unset, .unset, .unset, .unset] [(.int (p3 &&& (2 : Int32)))])) (fun _ kk => XS.iand X0.here hx rfl (hb hby at_98) rfl kk) ?_
        have j116 : ∀ (z116 : Int32), z116 = (if (p3 &&& (2 : Int32)) = (0 : Int32) then ((XT.ushr p3 (16 : Int32)) &&& (255 : Int32)).toUInt32.toUInt16.toUInt32.toInt32 else v72) → own_Out p e below (own_QW (Q_own_law Z p0 p1 p2 p3 p4 p5 cs fk h0 n0) Z room_1.cells room_1.slots) (T0.setTop (mkF m 116 #[.val (.int p0), .val (.int p1), .val (.int p2), .val (.int p3), .val (.int p4), .val (.int p5), .val (.int v4), .val (.int z25), .val (.int v33), .val (.int z53), .val (.int v61), .val (.int v72), .val (.int z94), .unset, .unset, .unset, .unset, .unset, .unset, .unset] [(.int z116)])) := by
          intro z116 hz116
          refine own_st (G := T0.setTop (mkF m 118 #[.val (.int p0), .val (.int p1), .val (.int p2), .val (.int p3), .val (.int p4), .val (.int p5), .val (.int v4), .val (.int z25), .val (.int v33), .val (.int z53), .val (.int v61), .val (.int v72), .val (.int z94), .val (.int z116), .unset, .unset, .unset, .unset, .unset, .unset] [])) (fun _ kk => XS.istore X0.here hx rfl (hb hby at_116) rfl (l' := #[.val (.int p0), .val (.int p1), .val (.int p2), .val (.int p3), .val (.int p4), .val (.int p5), .val (.int v4), .val (.int z25), .val (.int v33), .val (.int z53), .val (.int v61), .val (.int v72), .val (.int z94), .val (.int z116), .unset, .unset, .unset, .unset, .unset, .unset]) rfl kk) ?_
          refine own_st (G := T0.setTop (mkF m 120 #[.val (.int p0), .val (.int p1), .val (.int p2), .val (.int p3), .val (.int p4), .val (.int p5), .val (.int v4), .val (.int z25), .val (.int v33), .val (.int z53), .val (.int v61), .val (.int v72), .val (.int z94), .val (.int z116), .unset, .unset, .unset, .unset, .unset, .unset] [(.int v33)])) (fun _ kk => XS.iload X0.here hx rfl (hb hby at_118) rfl kk) ?_
          refine own_st (G := T0.setTop (mkF m 122 #[.val (.int p0), .val (.int p1), .val (.int p2), .val (.int p3), .val (.int p4), .val (.int p5), .val (.int v4), .val (.int z25), .val (.int v33), .val (.int z53), .val (.int v61), .val (.int v72), .val (.int z94), .val (.int z116), .unset, .unset, .unset, .unset, .unset, .unset] [(.int v61), (.int v33)])) (fun _ kk => XS.iload X0.here hx rfl (hb hby at_120) rfl kk) ?_
          refine own_st (G := T0.setTop (mkF m 124 #[.val (.int p0), .val (.int p1), .val (.int p2), .val (.int p3), .val (.int p4), .val (.int p5), .val (.int v4), .val (.int z25), .val (.int v33), .val (.int z53), .val (.int v61), .val (.int v72), .val (.int z94), .val (.int z116), .unset, .unset, .unset, .unset, .unset, .unset] [(.int v72), (.int v61), (.int v33)])) (fun _ kk => XS.iload X0.here hx rfl (hb hby at_122) rfl kk) ?_
          refine own_callSW (s := Z) (vm0 := Z.vm) X0 hx ((State.WarmedH.refl Z).since 0) (Nat.zero_le _) hZ (y := (⟨"com/example/libbuchi/libbuchi/formats/TokenIsPinLaw", "str", "(ICC)Ljava/lang/String;"⟩ : MethodName)) (as' := [(.int v33), (.int v61), (.int v72)]) hown (own_w hw 1 rfl) (own_w hw 2 rfl) (own_w hw 3 rfl) (own_w hw 4 rfl) (by decide) (own_str l Z a0 hw [] v33 v61 v72 cs Z.heap n0 (own_r3 p1 v33 hv33) (Nat.le_of_eq hn0) (own_rc _ v61 hv61) (own_rc _ v72 hv72) (Nat.le_of_eq hn0.symm) CS hcs held hcw) (fun vm₁ ww => own_G_warm (s := Z) (vm0 := Z.vm) ww (Or.inl ⟨IB.start, fun _ _ q => q⟩)) 0 (by decide) (by decide) (by decide) (by decide) (rest := []) (by rw [hml]; rfl) (lenOf (by decide : parseMethodDescriptor "(ICC)Ljava/lang/String;" = some ⟨[.int, .char, .char], some (.object "java/lang/String")⟩) rfl) rfl (Nat.le_of_eq rfl) (hb hby at_124) e0 ?_
          intro T2 L3 v5 X4 S6 hZ7 hown8 hQ
          replace hZ := hZ7
          replace hown := hown8
          obtain ⟨a1, rfl, N1', E1, ga1, ⟨b1, O1, F1⟩, G1⟩ := hQ
          show own_Out _ _ _ _ (T2.setTop (mkF m 127 #[.val (.int p0), .val (.int p1), .val (.int p2), .val (.int p3), .val (.int p4), .val (.int p5), .val (.int v4), .val (.int z25), .val (.int v33), .val (.int z53), .val (.int v61), .val (.int v72), .val (.int z94), .val (.int z116), .unset, .unset, .unset, .unset, .unset, .unset] [(.ref a1)]))
          have N1 := Fr.app N0 N1'
          have ET1 := E1
          have CS1 := CS.ext ET1
          have K1 := own_K_ext ET1 hK
          refine own_st (G := T2.setTop (mkF m 129 #[.val (.int p0), .val (.int p1), .val (.int p2), .val (.int p3), .val (.int p4), .val (.int p5), .val (.int v4), .val (.int z25), .val (.int v33), .val (.int z53), .val (.int v61), .val (.int v72), .val (.int z94), .val (.int z116), .val (.ref a1), .unset, .unset, .unset, .unset, .unset] [])) (fun _ kk => XS.astore X4.here hx rfl (hb hby at_127) rfl rfl (l' := #[.val (.int p0), .val (.int p1), .val (.int p2), .val (.int p3), .val (.int p4), .val (.int p5), .val (.int v4), .val (.int z25), .val (.int v33), .val (.int z53), .val (.int v61), .val (.int v72), .val (.int z94), .val (.int z116), .val (.ref a1), .unset, .unset, .unset, .unset, .unset]) rfl kk) ?_
          refine own_st (G := T2.setTop (mkF m 131 #[.val (.int p0), .val (.int p1), .val (.int p2), .val (.int p3), .val (.int p4), .val (.int p5), .val (.int v4), .val (.int z25), .val (.int v33), .val (.int z53), .val (.int v61), .val (.int v72), .val (.int z94), .val (.int z116), .val (.ref a1), .unset, .unset, .unset, .unset, .unset] [(.int z53)])) (fun _ kk => XS.iload X4.here hx rfl (hb hby at_129) rfl kk) ?_
          refine own_st (G := T2.setTop (mkF m 133 #[.val (.int p0), .val (.int p1), .val (.int p2), .val (.int p3), .val (.int p4), .val (.int p5), .val (.int v4), .val (.int z25), .val (.int v33), .val (.int z53), .val (.int v61), .val (.int v72), .val (.int z94), .val (.int z116), .val (.ref a1), .unset, .unset, .unset, .unset, .unset] [(.int z94), (.int z53)])) (fun _ kk => XS.iload X4.here hx rfl (hb hby at_131) rfl kk) ?_
          refine own_st (G := T2.setTop (mkF m 135 #[.val (.int p0), .val (.int p1), .val (.int p2), .val (.int p3), .val (.int p4), .val (.int p5), .val (.int v4), .val (.int z25), .val (.int v33), .val (.int z53), .val (.int v61), .val (.int v72), .val (.int z94), .val (.int z116), .val (.ref a1), .unset, .unset, .unset, .unset, .unset] [(.int z116), (.int z94), (.int z53)])) (fun _ kk => XS.iload X4.here hx rfl (hb hby at_133) rfl kk) ?_
          refine own_callSW (s := Z) (vm0 := T2.vm) X4 hx S6 (Nat.le_refl _) hZ (y := (⟨"com/example/libbuchi/libbuchi/formats/TokenIsPinLaw", "str", "(ICC)Ljava/lang/String;"⟩ : MethodName)) (as' := [(.int z53), (.int z94), (.int z116)]) hown (own_w hw 1 rfl) (own_w hw 2 rfl) (own_w hw 3 rfl) (own_w hw 4 rfl) (by decide) (own_str l Z a0 hw [] z53 z94 z116 cs T2.heap n0 (own_r3z p1 v33 z53 hv33 hz53) (Nat.le_trans (Nat.le_of_eq hn0) ET1.1) (own_rcz _ v61 z94 (own_rc _ v61 hv61) hz94) (own_rcz _ v72 z116 (own_rc _ v72 hv72) hz116) (Nat.le_of_eq hn0.symm) CS1 hcs held hcw) (fun vm₁ ww => own_G_warm (s := Z) (vm0 := T2.vm) ww G1) 0 (by decide) (by decide) (by decide) (by decide) (rest := []) (by rw [hml]; rfl) (lenOf (by decide : parseMethodDescriptor "(ICC)Ljava/lang/String;" = some ⟨[.int, .char, .char], some (.object "java/lang/String")⟩) rfl) rfl (Nat.le_of_eq rfl) (hb hby at_135) rfl ?_
          intro T10 L11 v13 X12 S14 hZ15 hown16 hQ
          replace hZ := hZ15
          replace hown := hown16
          obtain ⟨a2, rfl, N9', E2, ga2, ⟨b2, O2, F2⟩, G2⟩ := hQ
          show own_Out _ _ _ _ (T10.setTop (mkF m 138 #[.val (.int p0), .val (.int p1), .val (.int p2), .val (.int p3), .val (.int p4), .val (.int p5), .val (.int v4), .val (.int z25), .val (.int v33), .val (.int z53), .val (.int v61), .val (.int v72), .val (.int z94), .val (.int z116), .val (.ref a1), .unset, .unset, .unset, .unset, .unset] [(.ref a2)]))
          have N9 := Fr.app N1 N9'
          have ET2 := own_etr ET1 E2
          have Of1 := own_S0_ext E2 O1
          have Ff1 := own_AW_ext F1 E2
          have hne : a1 ≠ a2 := Nat.ne_of_lt (Nat.lt_of_lt_of_le (O1).1.lt ga2)
          have CS2 := CS.ext ET2
          have K2 := own_K_ext ET2 hK
          refine own_st (G := T10.setTop (mkF m 140 #[.val (.int p0), .val (.int p1), .val (.int p2), .val (.int p3), .val (.int p4), .val (.int p5), .val (.int v4), .val (.int z25), .val (.int v33), .val (.int z53), .val (.int v61), .val (.int v72), .val (.int z94), .val (.int z116), .val (.ref a1), .val (.ref a2), .unset, .unset, .unset, .unset] [])) (fun _ kk => XS.astore X12.here hx rfl (hb hby at_138) rfl rfl (l' := #[.val (.int p0), .val (.int p1), .val (.int p2), .val (.int p3), .val (.int p4), .val (.int p5), .val (.int v4), .val (.int z25), .val (.int v33), .val (.int z53), .val (.int v61), .val (.int v72), .val (.int z94), .val (.int z116), .val (.ref a1), .val (.ref a2), .unset, .unset, .unset, .unset]) rfl kk) ?_
          obtain ⟨T17, h18, X19, e20, E21, A22, D23, U25, st24⟩ := newO X12 hx hZ hown (own_w hw 27 rfl) (own_w hw 28 rfl) (own_w hw 29 rfl) rfl (g := (mkF m 140 #[.val (.int p0), .val (.int p1), .val (.int p2), .val (.int p3), .val (.int p4), .val (.int p5), .val (.int v4), .val (.int z25), .val (.int v33), .val (.int z53), .val (.int v61), .val (.int v72), .val (.int z94), .val (.int z116), .val (.ref a1), .val (.ref a2), .unset, .unset, .unset, .unset] [])) rfl (hb hby at_140) (by decide) (by decide)
          obtain ⟨a26, g27⟩ : ∃ z, z = T10.heap.size := ⟨_, rfl⟩
          rw [← g27] at A22 D23 U25 st24
          refine own_st st24 ?_
          show own_Out _ _ _ _ (T17.setTop (mkF m 143 #[.val (.int p0), .val (.int p1), .val (.int p2), .val (.int p3), .val (.int p4), .val (.int p5), .val (.int v4), .val (.int z25), .val (.int v33), .val (.int z53), .val (.int v61), .val (.int v72), .val (.int z94), .val (.int z116), .val (.ref a1), .val (.ref a2), .unset, .unset, .unset, .unset] [(.ref a26)]))
          have Ow : own_T Z h18 a26 .null .null (0 : Int32) (0 : Int32) := ⟨A22, D23 (Or.inr (own_w hw 46 rfl)) (ty := .object "com/example/libbuchi/libbuchi/formats/HoaLexer$Kind") (by decide), D23 (Or.inr (own_w hw 48 rfl)) (ty := .object "java/lang/String") (by decide), D23 (Or.inr (own_w hw 50 rfl)) (ty := .int) (by decide), D23 (Or.inr (own_w hw 52 rfl)) (ty := .int) (by decide)⟩
          have ga3 : n0 ≤ a26 := Nat.le_trans (Nat.le_of_eq hn0) (Nat.le_trans ET2.1 (Nat.le_of_eq g27.symm))
          have K3 := own_K_ext E21 K2
          refine own_st (G := T17.setTop (mkF m 144 #[.val (.int p0), .val (.int p1), .val (.int p2), .val (.int p3), .val (.int p4), .val (.int p5), .val (.int v4), .val (.int z25), .val (.int v33), .val (.int z53), .val (.int v61), .val (.int v72), .val (.int z94), .val (.int z116), .val (.ref a1), .val (.ref a2), .unset, .unset, .unset, .unset] [(.ref a26), (.ref a26)])) (fun _ kk => XS.dup X19.here hx rfl (hb hby at_143) rfl rfl kk) ?_
          refine own_st (G := T17.setTop (mkF m 146 #[.val (.int p0), .val (.int p1), .val (.int p2), .val (.int p3), .val (.int p4), .val (.int p5), .val (.int v4), .val (.int z25), .val (.int v33), .val (.int z53), .val (.int v61), .val (.int v72), .val (.int z94), .val (.int z116), .val (.ref a1), .val (.ref a2), .unset, .unset, .unset, .unset] [(.int v4), (.ref a26), (.ref a26)])) (fun _ kk => XS.iload X19.here hx rfl (hb hby at_144) rfl kk) ?_
          refine own_callS X19 hx hZ (y := (⟨"com/example/libbuchi/libbuchi/formats/TokenIsPinLaw", "kind", "(I)Lcom/example/libbuchi/libbuchi/formats/HoaLexer$Kind;"⟩ : MethodName)) (as' := [(.int v4)]) hown (own_w hw 30 rfl) (own_w hw 31 rfl) (own_w hw 3 rfl) (own_w hw 32 rfl) (by decide) (own_kind l Z a0 hw [] v4 fk h18 n0 K3 (own_r8 _ v4 hv4)) 2 (by decide) (by decide) (by decide) (by decide) (rest := [(.ref a26), (.ref a26)]) (by rw [hml]; rfl) (lenOf (by decide : parseMethodDescriptor "(I)Lcom/example/libbuchi/libbuchi/formats/HoaLexer$Kind;" = some ⟨[.int], some (.object "com/example/libbuchi/libbuchi/formats/HoaLexer$Kind")⟩) rfl) rfl (Nat.le_of_eq rfl) (hb hby at_146) e20 ?_
          intro T30 L31 v33 X32 hQ
          obtain ⟨rfl, rfl, eq28⟩ := hQ
          show own_Out _ _ _ _ (T30.setTop (mkF m 149 #[.val (.int p0), .val (.int p1), .val (.int p2), .val (.int p3), .val (.int p4), .val (.int p5), .val (.int v4), .val (.int z25), .val (.int v33), .val (.int z53), .val (.int v61), .val (.int v72), .val (.int z94), .val (.int z116), .val (.ref a1), .val (.ref a2), .unset, .unset, .unset, .unset] [(.ref (fk v4)), (.ref a26), (.ref a26)]))
          have N29 := Fr.app N9 (Fr.nil n0)
          refine own_st (G := T30.setTop (mkF m 151 #[.val (.int p0), .val (.int p1), .val (.int p2), .val (.int p3), .val (.int p4), .val (.int p5), .val (.int v4), .val (.int z25), .val (.int v33), .val (.int z53), .val (.int v61), .val (.int v72), .val (.int z94), .val (.int z116), .val (.ref a1), .val (.ref a2), .unset, .unset, .unset, .unset] [(.ref a1), (.ref (fk v4)), (.ref a26), (.ref a26)])) (fun _ kk => XS.aload X32.here hx rfl (hb hby at_149) rfl rfl kk) ?_
          refine own_st (G := T30.setTop (mkF m 153 #[.val (.int p0), .val (.int p1), .val (.int p2), .val (.int p3), .val (.int p4), .val (.int p5), .val (.int v4), .val (.int z25), .val (.int v33), .val (.int z53), .val (.int v61), .val (.int v72), .val (.int z94), .val (.int z116), .val (.ref a1), .val (.ref a2), .unset, .unset, .unset, .unset] [(.int p4), (.ref a1), (.ref (fk v4)), (.ref a26), (.ref a26)])) (fun _ kk => XS.iload X32.here hx rfl (hb hby at_151) rfl kk) ?_
          refine own_st (G := T30.setTop (mkF m 155 #[.val (.int p0), .val (.int p1), .val (.int p2), .val (.int p3), .val (.int p4), .val (.int p5), .val (.int v4), .val (.int z25), .val (.int v33), .val (.int z53), .val (.int v61), .val (.int v72), .val (.int z94), .val (.int z116), .val (.ref a1), .val (.ref a2), .unset, .unset, .unset, .unset] [(.int p5), (.int p4), (.ref a1), (.ref (fk v4)), (.ref a26), (.ref a26)])) (fun _ kk => XS.iload X32.here hx rfl (hb hby at_153) rfl kk) ?_
          refine own_callI X32 hx hZ (y := (⟨"com/example/libbuchi/libbuchi/formats/HoaLexer$Token", "<init>", "(Lcom/example/libbuchi/libbuchi/formats/HoaLexer$Kind;Ljava/lang/String;II)V"⟩ : MethodName)) (b := a26) (as' := [(.ref (fk v4)), (.ref a1), (.int p4), (.int p5)]) rfl hown (own_w hw 36 rfl) (own_w hw 37 rfl) (own_w hw 38 rfl) (own_w hw 29 rfl) (by decide) (own_init l Z a0 hw [] p4 p5 a26 .null .null (0 : Int32) (0 : Int32) (fk v4) a1 h18 n0 ga3 Ow) 1 (by decide) (by decide) (by decide) (by decide) (rest := [(.ref a26)]) (by rw [hml]; rfl) (lenOf (by decide : parseMethodDescriptor "(Lcom/example/libbuchi/libbuchi/formats/HoaLexer$Kind;Ljava/lang/String;II)V" = some ⟨[.object "com/example/libbuchi/libbuchi/formats/HoaLexer$Kind", .object "java/lang/String", .int, .int], none⟩) rfl) rfl (Nat.le_of_eq rfl) (hb hby at_155) eq28 ?_
          intro T35 L36 v38 X37 hQ
          obtain ⟨rfl, N34', Ot, Kt⟩ := hQ
          show own_Out _ _ _ _ (T35.setTop (mkF m 158 #[.val (.int p0), .val (.int p1), .val (.int p2), .val (.int p3), .val (.int p4), .val (.int p5), .val (.int v4), .val (.int z25), .val (.int v33), .val (.int z53), .val (.int v61), .val (.int v72), .val (.int z94), .val (.int z116), .val (.ref a1), .val (.ref a2), .unset, .unset, .unset, .unset] [(.ref a26)]))
          have N34 := Fr.app N29 N34'
          have Et := own_ext_keep E21 Kt (Nat.le_of_eq g27.symm)
          have K4 := own_K_ext Et K2
          have CS4 := CS2.ext Et
          have Og1 := own_S0_ext Et Of1
          have Og2 := own_S0_ext Et O2
          have Fg1 := own_AW_ext Ff1 Et
          have Fg2 := own_AW_ext F2 Et
          refine own_st (G := T35.setTop (mkF m 160 #[.val (.int p0), .val (.int p1), .val (.int p2), .val (.int p3), .val (.int p4), .val (.int p5), .val (.int v4), .val (.int z25), .val (.int v33), .val (.int z53), .val (.int v61), .val (.int v72), .val (.int z94), .val (.int z116), .val (.ref a1), .val (.ref a2), .val (.ref a26), .unset, .unset, .unset] [])) (fun _ kk => XS.astore X37.here hx rfl (hb hby at_158) rfl rfl (l' := #[.val (.int p0), .val (.int p1), .val (.int p2), .val (.int p3), .val (.int p4), .val (.int p5), .val (.int v4), .val (.int z25), .val (.int v33), .val (.int z53), .val (.int v61), .val (.int v72), .val (.int z94), .val (.int z116), .val (.ref a1), .val (.ref a2), .val (.ref a26), .unset, .unset, .unset]) rfl kk) ?_
          refine own_st (G := T35.setTop (mkF m 162 #[.val (.int p0), .val (.int p1), .val (.int p2), .val (.int p3), .val (.int p4), .val (.int p5), .val (.int v4), .val (.int z25), .val (.int v33), .val (.int z53), .val (.int v61), .val (.int v72), .val (.int z94), .val (.int z116), .val (.ref a1), .val (.ref a2), .val (.ref a26), .unset, .unset, .unset] [(.ref a26)])) (fun _ kk => XS.aload X37.here hx rfl (hb hby at_160) rfl rfl kk) ?_
          refine own_st (G := T35.setTop (mkF m 164 #[.val (.int p0), .val (.int p1), .val (.int p2), .val (.int p3), .val (.int p4), .val (.int p5), .val (.int v4), .val (.int z25), .val (.int v33), .val (.int z53), .val (.int v61), .val (.int v72), .val (.int z94), .val (.int z116), .val (.ref a1), .val (.ref a2), .val (.ref a26), .unset, .unset, .unset] [(.int z25), (.ref a26)])) (fun _ kk => XS.iload X37.here hx rfl (hb hby at_162) rfl kk) ?_
          refine own_callS X37 hx hZ (y := (⟨"com/example/libbuchi/libbuchi/formats/TokenIsPinLaw", "kind", "(I)Lcom/example/libbuchi/libbuchi/formats/HoaLexer$Kind;"⟩ : MethodName)) (as' := [(.int z25)]) hown (own_w hw 30 rfl) (own_w hw 31 rfl) (own_w hw 3 rfl) (own_w hw 32 rfl) (by decide) (own_kind l Z a0 hw [] z25 fk T35.heap n0 K4 (own_r8z _ v4 z25 (own_r8 _ v4 hv4) hz25)) 1 (by decide) (by decide) (by decide) (by decide) (rest := [(.ref a26)]) (by rw [hml]; rfl) (lenOf (by decide : parseMethodDescriptor "(I)Lcom/example/libbuchi/libbuchi/formats/HoaLexer$Kind;" = some ⟨[.int], some (.object "com/example/libbuchi/libbuchi/formats/HoaLexer$Kind")⟩) rfl) rfl (Nat.le_of_eq rfl) (hb hby at_164) rfl ?_
          intro T41 L42 v44 X43 hQ
          obtain ⟨rfl, rfl, eq39⟩ := hQ
          show own_Out _ _ _ _ (T41.setTop (mkF m 167 #[.val (.int p0), .val (.int p1), .val (.int p2), .val (.int p3), .val (.int p4), .val (.int p5), .val (.int v4), .val (.int z25), .val (.int v33), .val (.int z53), .val (.int v61), .val (.int v72), .val (.int z94), .val (.int z116), .val (.ref a1), .val (.ref a2), .val (.ref a26), .unset, .unset, .unset] [(.ref (fk z25)), (.ref a26)]))
          have N40 := Fr.app N34 (Fr.nil n0)
          refine own_st (G := T41.setTop (mkF m 169 #[.val (.int p0), .val (.int p1), .val (.int p2), .val (.int p3), .val (.int p4), .val (.int p5), .val (.int v4), .val (.int z25), .val (.int v33), .val (.int z53), .val (.int v61), .val (.int v72), .val (.int z94), .val (.int z116), .val (.ref a1), .val (.ref a2), .val (.ref a26), .unset, .unset, .unset] [(.ref a2), (.ref (fk z25)), (.ref a26)])) (fun _ kk => XS.aload X43.here hx rfl (hb hby at_167) rfl rfl kk) ?_
          refine own_callV X43 hx hZ (y := (⟨"com/example/libbuchi/libbuchi/formats/HoaLexer$Token", "is", "(Lcom/example/libbuchi/libbuchi/formats/HoaLexer$Kind;Ljava/lang/String;)Z"⟩ : MethodName)) (b := a26) (as' := [(.ref (fk z25)), (.ref a2)]) hown (own_w hw 53 rfl) (own_w hw 54 rfl) (own_w hw 56 rfl) (own_w hw 55 rfl) (own_w hw 57 rfl) (own_w hw 29 rfl) (by decide) (own_is l Z a0 hw [] a26 (fk v4) (fk z25) a1 a2 b1 b2 p4 p5 _ _ _ _ cs T35.heap n0 Ot Og1 Og2 Fg1 Fg2 (own_n2 (own_r3 p1 v33 hv33)) (own_n2 (own_r3z p1 v33 z53 hv33 hz53)) hne CS4 hcs) (Ot).1 0 (by decide) (by decide) (by decide) (by decide) (rest := []) (by rw [hml]; rfl) (lenOf (by decide : parseMethodDescriptor "(Lcom/example/libbuchi/libbuchi/formats/HoaLexer$Kind;Ljava/lang/String;)Z" = some ⟨[.object "com/example/libbuchi/libbuchi/formats/HoaLexer$Kind", .object "java/lang/String"], some (.boolean)⟩) rfl) rfl (Nat.le_of_eq rfl) (hb hby at_169) eq39 ?_
          intro T47 L48 v50 X49 hQ
          obtain ⟨r, rfl, hr, rfl, eq45, s1, s2⟩ := hQ
          show own_Out _ _ _ _ (T47.setTop (mkF m 172 #[.val (.int p0), .val (.int p1), .val (.int p2), .val (.int p3), .val (.int p4), .val (.int p5), .val (.int v4), .val (.int z25), .val (.int v33), .val (.int z53), .val (.int v61), .val (.int v72), .val (.int z94), .val (.int z116), .val (.ref a1), .val (.ref a2), .val (.ref a26), .unset, .unset, .unset] [(.int r)]))
          have N46 := Fr.app N40 (Fr.nil n0)
          refine own_st (G := T47.setTop (mkF m 174 #[.val (.int p0), .val (.int p1), .val (.int p2), .val (.int p3), .val (.int p4), .val (.int p5), .val (.int v4), .val (.int z25), .val (.int v33), .val (.int z53), .val (.int v61), .val (.int v72), .val (.int z94), .val (.int z116), .val (.ref a1), .val (.ref a2), .val (.ref a26), .val (.int r), .unset, .unset] [])) (fun _ kk => XS.istore X49.here hx rfl (hb hby at_172) rfl (l' := #[.val (.int p0), .val (.int p1), .val (.int p2), .val (.int p3), .val (.int p4), .val (.int p5), .val (.int v4), .val (.int z25), .val (.int v33), .val (.int z53), .val (.int v61), .val (.int v72), .val (.int z94), .val (.int z116), .val (.ref a1), .val (.ref a2), .val (.ref a26), .val (.int r), .unset, .unset]) rfl kk) ?_
          refine own_st (G := T47.setTop (mkF m 176 #[.val (.int p0), .val (.int p1), .val (.int p2), .val (.int p3), .val (.int p4), .val (.int p5), .val (.int v4), .val (.int z25), .val (.int v33), .val (.int z53), .val (.int v61), .val (.int v72), .val (.int z94), .val (.int z116), .val (.ref a1), .val (.ref a2), .val (.ref a26), .val (.int r), .unset, .unset] [(.int v4)])) (fun _ kk => XS.iload X49.here hx rfl (hb hby at_174) rfl kk) ?_
          refine own_st (G := T47.setTop (mkF m 178 #[.val (.int p0), .val (.int p1), .val (.int p2), .val (.int p3), .val (.int p4), .val (.int p5), .val (.int v4), .val (.int z25), .val (.int v33), .val (.int z53), .val (.int v61), .val (.int v72), .val (.int z94), .val (.int z116), .val (.ref a1), .val (.ref a2), .val (.ref a26), .val (.int r), .unset, .unset] [(.int z25), (.int v4)])) (fun _ kk => XS.iload X49.here hx rfl (hb hby at_176) rfl kk) ?_
          have j186 : ∀ (z186 : Int32), z186 = (if v4 = z25 then (1 : Int32) else (0 : Int32)) → own_Out p e below (own_QW (Q_own_law Z p0 p1 p2 p3 p4 p5 cs fk h0 n0) Z room_1.cells room_1.slots) (T47.setTop (mkF m 186 #[.val (.int p0), .val (.int p1), .val (.int p2), .val (.int p3), .val (.int p4), .val (.int p5), .val (.int v4), .val (.int z25), .val (.int v33), .val (.int z53), .val (.int v61), .val (.int v72), .val (.int z94), .val (.int z116), .val (.ref a1), .val (.ref a2), .val (.ref a26), .val (.int r), .unset, .unset] [(.int z186)])) := by
            intro z186 hz186
            refine own_st (G := T47.setTop (mkF m 188 #[.val (.int p0), .val (.int p1), .val (.int p2), .val (.int p3), .val (.int p4), .val (.int p5), .val (.int v4), .val (.int z25), .val (.int v33), .val (.int z53), .val (.int v61), .val (.int v72), .val (.int z94), .val (.int z116), .val (.ref a1), .val (.ref a2), .val (.ref a26), .val (.int r), .val (.int z186), .unset] [])) (fun _ kk => XS.istore X49.here hx rfl (hb hby at_186) rfl (l' := #[.val (.int p0), .val (.int p1), .val (.int p2), .val (.int p3), .val (.int p4), .val (.int p5), .val (.int v4), .val (.int z25), .val (.int v33), .val (.int z53), .val (.int v61), .val (.int v72), .val (.int z94), .val (.int z116), .val (.ref a1), .val (.ref a2), .val (.ref a26), .val (.int r), .val (.int z186), .unset]) rfl kk) ?_
            refine own_st (G := T47.setTop (mkF m 190 #[.val (.int p0), .val (.int p1), .val (.int p2), .val (.int p3), .val (.int p4), .val (.int p5), .val (.int v4), .val (.int z25), .val (.int v33), .val (.int z53), .val (.int v61), .val (.int v72), .val (.int z94), .val (.int z116), .val (.ref a1), .val (.ref a2), .val (.ref a26), .val (.int r), .val (.int z186), .unset] [(.int v33)])) (fun _ kk => XS.iload X49.here hx rfl (hb hby at_188) rfl kk) ?_
            refine own_st (G := T47.setTop (mkF m 192 #[.val (.int p0), .val (.int p1), .val (.int p2), .val (.int p3), .val (.int p4), .val (.int p5), .val (.int v4), .val (.int z25), .val (.int v33), .val (.int z53), .val (.int v61), .val (.int v72), .val (.int z94), .val (.int z116), .val (.ref a1), .val (.ref a2), .val (.ref a26), .val (.int r), .val (.int z186), .unset] [(.int z53), (.int v33)])) (fun _ kk => XS.iload X49.here hx rfl (hb hby at_190) rfl kk) ?_
            have j226 : ∀ (z226 : Int32), z226 = (if v33 = z53 then (if v33 < (1 : Int32) then (if v33 < (2 : Int32) then (1 : Int32) else (if v72 = z116 then (1 : Int32) else (0 : Int32))) else (if v61 = z94 then (if v33 < (2 : Int32) then (1 : Int32) else (if v72 = z116 then (1 : Int32) else (0 : Int32))) else (0 : Int32))) else (0 : Int32)) → own_Out p e below (own_QW (Q_own_law Z p0 p1 p2 p3 p4 p5 cs fk h0 n0) Z room_1.cells room_1.slots) (T47.setTop (mkF m 226 #[.val (.int p0), .val (.int p1), .val (.int p2), .val (.int p3), .val (.int p4), .val (.int p5), .val (.int v4), .val (.int z25), .val (.int v33), .val (.int z53), .val (.int v61), .val (.int v72), .val (.int z94), .val (.int z116), .val (.ref a1), .val (.ref a2), .val (.ref a26), .val (.int r), .val (.int z186), .unset] [(.int z226)])) := by
              intro z226 hz226
              refine own_st (G := T47.setTop (mkF m 228 #[.val (.int p0), .val (.int p1), .val (.int p2), .val (.int p3), .val (.int p4), .val (.int p5), .val (.int v4), .val (.int z25), .val (.int v33), .val (.int z53), .val (.int v61), .val (.int v72), .val (.int z94), .val (.int z116), .val (.ref a1), .val (.ref a2), .val (.ref a26), .val (.int r), .val (.int z186), .val (.int z226)] [])) (fun _ kk => XS.istore X49.here hx rfl (hb hby at_226) rfl (l' := #[.val (.int p0), .val (.int p1), .val (.int p2), .val (.int p3), .val (.int p4), .val (.int p5), .val (.int v4), .val (.int z25), .val (.int v33), .val (.int z53), .val (.int v61), .val (.int v72), .val (.int z94), .val (.int z116), .val (.ref a1), .val (.ref a2), .val (.ref a26), .val (.int r), .val (.int z186), .val (.int z226)]) rfl kk) ?_
              refine own_st (G := T47.setTop (mkF m 230 #[.val (.int p0), .val (.int p1), .val (.int p2), .val (.int p3), .val (.int p4), .val (.int p5), .val (.int v4), .val (.int z25), .val (.int v33), .val (.int z53), .val (.int v61), .val (.int v72), .val (.int z94), .val (.int z116), .val (.ref a1), .val (.ref a2), .val (.ref a26), .val (.int r), .val (.int z186), .val (.int z226)] [(.int r)])) (fun _ kk => XS.iload X49.here hx rfl (hb hby at_228) rfl kk) ?_
              refine own_st (G := T47.setTop (mkF m 232 #[.val (.int p0), .val (.int p1), .val (.int p2), .val (.int p3), .val (.int p4), .val (.int p5), .val (.int v4), .val (.int z25), .val (.int v33), .val (.int z53), .val (.int v61), .val (.int v72), .val (.int z94), .val (.int z116), .val (.ref a1), .val (.ref a2), .val (.ref a26), .val (.int r), .val (.int z186), .val (.int z226)] [(.int z186), (.int r)])) (fun _ kk => XS.iload X49.here hx rfl (hb hby at_230) rfl kk) ?_
              have j245 : ∀ (z245 : Int32), z245 = (if v4 = z25 then (if z226 = (0 : Int32) then (0 : Int32) else (1 : Int32)) else (0 : Int32)) → own_Out p e below (own_QW (Q_own_law Z p0 p1 p2 p3 p4 p5 cs fk h0 n0) Z room_1.cells room_1.slots) (T47.setTop (mkF m 245 #[.val (.int p0), .val (.int p1), .val (.int p2), .val (.int p3), .val (.int p4), .val (.int p5), .val (.int v4), .val (.int z25), .val (.int v33), .val (.int z53), .val (.int v61), .val (.int v72), .val (.int z94), .val (.int z116), .val (.ref a1), .val (.ref a2), .val (.ref a26), .val (.int r), .val (.int z186), .val (.int z226)] [(.int z245), (.int r)])) := by
                intro z245 hz245
                have hk51 : (r = z245) := own_plain hord (own_r8 _ v4 hv4) (own_r8z _ v4 z25 (own_r8 _ v4 hv4) hz25) (own_r3 p1 v33 hv33) (own_r3z p1 v33 z53 hv33 hz53) (own_rc _ v61 hv61) (own_rc _ v72 hv72) (own_rcz _ v61 z94 (own_rc _ v61 hv61) hz94) (own_rcz _ v72 z116 (own_rc _ v72 hv72) hz116) hr s1 s2 hz186 hz226 hz245
                refine own_st (G := T47.setTop (mkF m 248 #[.val (.int p0), .val (.int p1), .val (.int p2), .val (.int p3), .val (.int p4), .val (.int p5), .val (.int v4), .val (.int z25), .val (.int v33), .val (.int z53), .val (.int v61), .val (.int v72), .val (.int z94), .val (.int z116), .val (.ref a1), .val (.ref a2), .val (.ref a26), .val (.int r), .val (.int z186), .val (.int z226)] [])) (fun _ kk => XS.icmpNo X49.here hx rfl (hb hby at_245) rfl (XT.ii_ne_f hk51) kk) ?_
                refine own_st (G := T47.setTop (mkF m 249 #[.val (.int p0), .val (.int p1), .val (.int p2), .val (.int p3), .val (.int p4), .val (.int p5), .val (.int v4), .val (.int z25), .val (.int v33), .val (.int z53), .val (.int v61), .val (.int v72), .val (.int z94), .val (.int z116), .val (.ref a1), .val (.ref a2), .val (.ref a26), .val (.int r), .val (.int z186), .val (.int z226)] [(.int (1 : Int32))])) (fun _ kk => XT.iconstV X49.here hx rfl (1 : Int32) (hb hby at_248) (by decide) kk) ?_
                refine own_st (G := T47.setTop (mkF m 253 #[.val (.int p0), .val (.int p1), .val (.int p2), .val (.int p3), .val (.int p4), .val (.int p5), .val (.int v4), .val (.int z25), .val (.int v33), .val (.int z53), .val (.int v61), .val (.int v72), .val (.int z94), .val (.int z116), .val (.ref a1), .val (.ref a2), .val (.ref a26), .val (.int r), .val (.int z186), .val (.int z226)] [(.int (1 : Int32))])) (fun _ kk => XS.goto X49.here hx rfl (pc0 := 249) (pc' := 253) rfl (hb hby at_249) (by decide) (by decide) kk) ?_
                refine own_retBW (s := Z) (vm1 := T10.vm) X49 hx S14 (by rw [eq45]; exact Et.1) hret (by simp) hlk (hb hby at_253) (by decide) (by decide) ?_
                exact ⟨rfl, N46⟩
              by_cases hc52 : v4 = z25
              · skip
                refine own_st (G := T47.setTop (mkF m 235 #[.val (.int p0), .val (.int p1), .val (.int p2), .val (.int p3), .val (.int p4), .val (.int p5), .val (.int v4), .val (.int z25), .val (.int v33), .val (.int z53), .val (.int v61), .val (.int v72), .val (.int z94), .val (.int z116), .val (.ref a1), .val (.ref a2), .val (.ref a26), .val (.int r), .val (.int z186), .val (.int z226)] [(.int r)])) (fun _ kk => XS.ifNo X49.here hx rfl (hb hby at_232) rfl (XT.i0_eq_f (fun q => absurd ((hz186.trans (if_pos hc52)).symm.trans q) (by decide))) kk) ?_
                refine own_st (G := T47.setTop (mkF m 237 #[.val (.int p0), .val (.int p1), .val (.int p2), .val (.int p3), .val (.int p4), .val (.int p5), .val (.int v4), .val (.int z25), .val (.int v33), .val (.int z53), .val (.int v61), .val (.int v72), .val (.int z94), .val (.int z116), .val (.ref a1), .val (.ref a2), .val (.ref a26), .val (.int r), .val (.int z186), .val (.int z226)] [(.int z226), (.int r)])) (fun _ kk => XS.iload X49.here hx rfl (hb hby at_235) rfl kk) ?_
                by_cases hc53 : z226 = (0 : Int32)
                · skip
                  refine own_st (G := T47.setTop (mkF m 244 #[.val (.int p0), .val (.int p1), .val (.int p2), .val (.int p3), .val (.int p4), .val (.int p5), .val (.int v4), .val (.int z25), .val (.int v33), .val (.int z53), .val (.int v61), .val (.int v72), .val (.int z94), .val (.int z116), .val (.ref a1), .val (.ref a2), .val (.ref a26), .val (.int r), .val (.int z186), .val (.int z226)] [(.int r)])) (fun _ kk => XS.ifYes X49.here hx rfl (pc0 := 237) (pc' := 244) rfl (hb hby at_237) rfl (XT.i0_eq_t hc53) (by decide) (by decide) kk) ?_
                  refine own_st (G := T47.setTop (mkF m 245 #[.val (.int p0), .val (.int p1), .val (.int p2), .val (.int p3), .val (.int p4), .val (.int p5), .val (.int v4), .val (.int z25), .val (.int v33), .val (.int z53), .val (.int v61), .val (.int v72), .val (.int z94), .val (.int z116), .val (.ref a1), .val (.ref a2), .val (.ref a26), .val (.int r), .val (.int z186), .val (.int z226)] [(.int (0 : Int32)), (.int r)])) (fun _ kk => XT.iconstV X49.here hx rfl (0 : Int32) (hb hby at_244) (by decide) kk) ?_
                  exact j245 _ (by rw [if_pos hc52, if_pos hc53])
                · skip
                  refine own_st (G := T47.setTop (mkF m 240 #[.val (.int p0), .val (.int p1), .val (.int p2), .val (.int p3), .val (.int p4), .val (.int p5), .val (.int v4), .val (.int z25), .val (.int v33), .val (.int z53), .val (.int v61), .val (.int v72), .val (.int z94), .val (.int z116), .val (.ref a1), .val (.ref a2), .val (.ref a26), .val (.int r), .val (.int z186), .val (.int z226)] [(.int r)])) (fun _ kk => XS.ifNo X49.here hx rfl (hb hby at_237) rfl (XT.i0_eq_f hc53) kk) ?_
                  refine own_st (G := T47.setTop (mkF m 241 #[.val (.int p0), .val (.int p1), .val (.int p2), .val (.int p3), .val (.int p4), .val (.int p5), .val (.int v4), .val (.int z25), .val (.int v33), .val (.int z53), .val (.int v61), .val (.int v72), .val (.int z94), .val (.int z116), .val (.ref a1), .val (.ref a2), .val (.ref a26), .val (.int r), .val (.int z186), .val (.int z226)] [(.int (1 : Int32)), (.int r)])) (fun _ kk => XT.iconstV X49.here hx rfl (1 : Int32) (hb hby at_240) (by decide) kk) ?_
                  refine own_st (G := T47.setTop (mkF m 245 #[.val (.int p0), .val (.int p1), .val (.int p2), .val (.int p3), .val (.int p4), .val (.int p5), .val (.int v4), .val (.int z25), .val (.int v33), .val (.int z53), .val (.int v61), .val (.int v72), .val (.int z94), .val (.int z116), .val (.ref a1), .val (.ref a2), .val (.ref a26), .val (.int r), .val (.int z186), .val (.int z226)] [(.int (1 : Int32)), (.int r)])) (fun _ kk => XS.goto X49.here hx rfl (pc0 := 241) (pc' := 245) rfl (hb hby at_241) (by decide) (by decide) kk) ?_
                  exact j245 _ (by rw [if_pos hc52, if_neg hc53])
              · skip
                refine own_st (G := T47.setTop (mkF m 244 #[.val (.int p0), .val (.int p1), .val (.int p2), .val (.int p3), .val (.int p4), .val (.int p5), .val (.int v4), .val (.int z25), .val (.int v33), .val (.int z53), .val (.int v61), .val (.int v72), .val (.int z94), .val (.int z116), .val (.ref a1), .val (.ref a2), .val (.ref a26), .val (.int r), .val (.int z186), .val (.int z226)] [(.int r)])) (fun _ kk => XS.ifYes X49.here hx rfl (pc0 := 232) (pc' := 244) rfl (hb hby at_232) rfl (XT.i0_eq_t (hz186.trans (if_neg hc52))) (by decide) (by decide) kk) ?_
                refine own_st (G := T47.setTop (mkF m 245 #[.val (.int p0), .val (.int p1), .val (.int p2), .val (.int p3), .val (.int p4), .val (.int p5), .val (.int v4), .val (.int z25), .val (.int v33), .val (.int z53), .val (.int v61), .val (.int v72), .val (.int z94), .val (.int z116), .val (.ref a1), .val (.ref a2), .val (.ref a26), .val (.int r), .val (.int z186), .val (.int z226)] [(.int (0 : Int32)), (.int r)])) (fun _ kk => XT.iconstV X49.here hx rfl (0 : Int32) (hb hby at_244) (by decide) kk) ?_
                exact j245 _ (by rw [if_neg hc52])
            by_cases hc54 : v33 = z53
            · skip
              refine own_st (G := T47.setTop (mkF m 195 #[.val (.int p0), .val (.int p1), .val (.int p2), .val (.int p3), .val (.int p4), .val (.int p5), .val (.int v4), .val (.int z25), .val (.int v33), .val (.int z53), .val (.int v61), .val (.int v72), .val (.int z94), .val (.int z116), .val (.ref a1), .val (.ref a2), .val (.ref a26), .val (.int r), .val (.int z186), .unset] [])) (fun _ kk => XS.icmpNo X49.here hx rfl (hb hby at_192) rfl (XT.ii_ne_f hc54) kk) ?_
              refine own_st (G := T47.setTop (mkF m 197 #[.val (.int p0), .val (.int p1), .val (.int p2), .val (.int p3), .val (.int p4), .val (.int p5), .val (.int v4), .val (.int z25), .val (.int v33), .val (.int z53), .val (.int v61), .val (.int v72), .val (.int z94), .val (.int z116), .val (.ref a1), .val (.ref a2), .val (.ref a26), .val (.int r), .val (.int z186), .unset] [(.int v33)])) (fun _ kk => XS.iload X49.here hx rfl (hb hby at_195) rfl kk) ?_
              refine own_st (G := T47.setTop (mkF m 198 #[.val (.int p0), .val (.int p1), .val (.int p2), .val (.int p3), .val (.int p4), .val (.int p5), .val (.int v4), .val (.int z25), .val (.int v33), .val (.int z53), .val (.int v61), .val (.int v72), .val (.int z94), .val (.int z116), .val (.ref a1), .val (.ref a2), .val (.ref a26), .val (.int r), .val (.int z186), .unset] [(.int (1 : Int32)), (.int v33)])) (fun _ kk => XT.iconstV X49.here hx rfl (1 : Int32) (hb hby at_197) (by decide) kk) ?_
              by_cases hc55 : v33 < (1 : Int32)
              · skip
                refine own_st (G := T47.setTop (mkF m 208 #[.val (.int p0), .val (.int p1), .val (.int p2), .val (.int p3), .val (.int p4), .val (.int p5), .val (.int v4), .val (.int z25), .val (.int v33), .val (.int z53), .val (.int v61), .val (.int v72), .val (.int z94), .val (.int z116), .val (.ref a1), .val (.ref a2), .val (.ref a26), .val (.int r), .val (.int z186), .unset] [])) (fun _ kk => XS.icmpYes X49.here hx rfl (pc0 := 198) (pc' := 208) rfl (hb hby at_198) rfl (XT.ii_lt_t hc55) (by decide) (by decide) kk) ?_
                refine own_st (G := T47.setTop (mkF m 210 #[.val (.int p0), .val (.int p1), .val (.int p2), .val (.int p3), .val (.int p4), .val (.int p5), .val (.int v4), .val (.int z25), .val (.int v33), .val (.int z53), .val (.int v61), .val (.int v72), .val (.int z94), .val (.int z116), .val (.ref a1), .val (.ref a2), .val (.ref a26), .val (.int r), .val (.int z186), .unset] [(.int v33)])) (fun _ kk => XS.iload X49.here hx rfl (hb hby at_208) rfl kk) ?_
                refine own_st (G := T47.setTop (mkF m 211 #[.val (.int p0), .val (.int p1), .val (.int p2), .val (.int p3), .val (.int p4), .val (.int p5), .val (.int v4), .val (.int z25), .val (.int v33), .val (.int z53), .val (.int v61), .val (.int v72), .val (.int z94), .val (.int z116), .val (.ref a1), .val (.ref a2), .val (.ref a26), .val (.int r), .val (.int z186), .unset] [(.int (2 : Int32)), (.int v33)])) (fun _ kk => XT.iconstV X49.here hx rfl (2 : Int32) (hb hby at_210) (by decide) kk) ?_
                by_cases hc56 : v33 < (2 : Int32)
                · skip
                  refine own_st (G := T47.setTop (mkF m 221 #[.val (.int p0), .val (.int p1), .val (.int p2), .val (.int p3), .val (.int p4), .val (.int p5), .val (.int v4), .val (.int z25), .val (.int v33), .val (.int z53), .val (.int v61), .val (.int v72), .val (.int z94), .val (.int z116), .val (.ref a1), .val (.ref a2), .val (.ref a26), .val (.int r), .val (.int z186), .unset] [])) (fun _ kk => XS.icmpYes X49.here hx rfl (pc0 := 211) (pc' := 221) rfl (hb hby at_211) rfl (XT.ii_lt_t hc56) (by decide) (by decide) kk) ?_
                  refine own_st (G := T47.setTop (mkF m 222 #[.val (.int p0), .val (.int p1), .val (.int p2), .val (.int p3), .val (.int p4), .val (.int p5), .val (.int v4), .val (.int z25), .val (.int v33), .val (.int z53), .val (.int v61), .val (.int v72), .val (.int z94), .val (.int z116), .val (.ref a1), .val (.ref a2), .val (.ref a26), .val (.int r), .val (.int z186), .unset] [(.int (1 : Int32))])) (fun _ kk => XT.iconstV X49.here hx rfl (1 : Int32) (hb hby at_221) (by decide) kk) ?_
                  refine own_st (G := T47.setTop (mkF m 226 #[.val (.int p0), .val (.int p1), .val (.int p2), .val (.int p3), .val (.int p4), .val (.int p5), .val (.int v4), .val (.int z25), .val (.int v33), .val (.int z53), .val (.int v61), .val (.int v72), .val (.int z94), .val (.int z116), .val (.ref a1), .val (.ref a2), .val (.ref a26), .val (.int r), .val (.int z186), .unset] [(.int (1 : Int32))])) (fun _ kk => XS.goto X49.here hx rfl (pc0 := 222) (pc' := 226) rfl (hb hby at_222) (by decide) (by decide) kk) ?_
                  exact j226 _ (by rw [if_pos hc54, if_pos hc55, if_pos hc56])
                · skip
                  refine own_st (G := T47.setTop (mkF m 214 #[.val (.int p0), .val (.int p1), .val (.int p2), .val (.int p3), .val (.int p4), .val (.int p5), .val (.int v4), .val (.int z25), .val (.int v33), .val (.int z53), .val (.int v61), .val (.int v72), .val (.int z94), .val (.int z116), .val (.ref a1), .val (.ref a2), .val (.ref a26), .val (.int r), .val (.int z186), .unset] [])) (fun _ kk => XS.icmpNo X49.here hx rfl (hb hby at_211) rfl (XT.ii_lt_f hc56) kk) ?_
                  refine own_st (G := T47.setTop (mkF m 216 #[.val (.int p0), .val (.int p1), .val (.int p2), .val (.int p3), .val (.int p4), .val (.int p5), .val (.int v4), .val (.int z25), .val (.int v33), .val (.int z53), .val (.int v61), .val (.int v72), .val (.int z94), .val (.int z116), .val (.ref a1), .val (.ref a2), .val (.ref a26), .val (.int r), .val (.int z186), .unset] [(.int v72)])) (fun _ kk => XS.iload X49.here hx rfl (hb hby at_214) rfl kk) ?_
                  refine own_st (G := T47.setTop (mkF m 218 #[.val (.int p0), .val (.int p1), .val (.int p2), .val (.int p3), .val (.int p4), .val (.int p5), .val (.int v4), .val (.int z25), .val (.int v33), .val (.int z53), .val (.int v61), .val (.int v72), .val (.int z94), .val (.int z116), .val (.ref a1), .val (.ref a2), .val (.ref a26), .val (.int r), .val (.int z186), .unset] [(.int z116), (.int v72)])) (fun _ kk => XS.iload X49.here hx rfl (hb hby at_216) rfl kk) ?_
                  by_cases hc57 : v72 = z116
                  · skip
                    refine own_st (G := T47.setTop (mkF m 221 #[.val (.int p0), .val (.int p1), .val (.int p2), .val (.int p3), .val (.int p4), .val (.int p5), .val (.int v4), .val (.int z25), .val (.int v33), .val (.int z53), .val (.int v61), .val (.int v72), .val (.int z94), .val (.int z116), .val (.ref a1), .val (.ref a2), .val (.ref a26), .val (.int r), .val (.int z186), .unset] [])) (fun _ kk => XS.icmpNo X49.here hx rfl (hb hby at_218) rfl (XT.ii_ne_f hc57) kk) ?_
                    refine own_st (G := T47.setTop (mkF m 222 #[.val (.int p0), .val (.int p1), .val (.int p2), .val (.int p3), .val (.int p4), .val (.int p5), .val (.int v4), .val (.int z25), .val (.int v33), .val (.int z53), .val (.int v61), .val (.int v72), .val (.int z94), .val (.int z116), .val (.ref a1), .val (.ref a2), .val (.ref a26), .val (.int r), .val (.int z186), .unset] [(.int (1 : Int32))])) (fun _ kk => XT.iconstV X49.here hx rfl (1 : Int32) (hb hby at_221) (by decide) kk) ?_
                    refine own_st (G := T47.setTop (mkF m 226 #[.val (.int p0), .val (.int p1), .val (.int p2), .val (.int p3), .val (.int p4), .val (.int p5), .val (.int v4), .val (.int z25), .val (.int v33), .val (.int z53), .val (.int v61), .val (.int v72), .val (.int z94), .val (.int z116), .val (.ref a1), .val (.ref a2), .val (.ref a26), .val (.int r), .val (.int z186), .unset] [(.int (1 : Int32))])) (fun _ kk => XS.goto X49.here hx rfl (pc0 := 222) (pc' := 226) rfl (hb hby at_222) (by decide) (by decide) kk) ?_
                    exact j226 _ (by rw [if_pos hc54, if_pos hc55, if_neg hc56, if_pos hc57])
                  · skip
                    refine own_st (G := T47.setTop (mkF m 225 #[.val (.int p0), .val (.int p1), .val (.int p2), .val (.int p3), .val (.int p4), .val (.int p5), .val (.int v4), .val (.int z25), .val (.int v33), .val (.int z53), .val (.int v61), .val (.int v72), .val (.int z94), .val (.int z116), .val (.ref a1), .val (.ref a2), .val (.ref a26), .val (.int r), .val (.int z186), .unset] [])) (fun _ kk => XS.icmpYes X49.here hx rfl (pc0 := 218) (pc' := 225) rfl (hb hby at_218) rfl (XT.ii_ne_t hc57) (by decide) (by decide) kk) ?_
                    refine own_st (G := T47.setTop (mkF m 226 #[.val (.int p0), .val (.int p1), .val (.int p2), .val (.int p3), .val (.int p4), .val (.int p5), .val (.int v4), .val (.int z25), .val (.int v33), .val (.int z53), .val (.int v61), .val (.int v72), .val (.int z94), .val (.int z116), .val (.ref a1), .val (.ref a2), .val (.ref a26), .val (.int r), .val (.int z186), .unset] [(.int (0 : Int32))])) (fun _ kk => XT.iconstV X49.here hx rfl (0 : Int32) (hb hby at_225) (by decide) kk) ?_
                    exact j226 _ (by rw [if_pos hc54, if_pos hc55, if_neg hc56, if_neg hc57])
              · skip
                refine own_st (G := T47.setTop (mkF m 201 #[.val (.int p0), .val (.int p1), .val (.int p2), .val (.int p3), .val (.int p4), .val (.int p5), .val (.int v4), .val (.int z25), .val (.int v33), .val (.int z53), .val (.int v61), .val (.int v72), .val (.int z94), .val (.int z116), .val (.ref a1), .val (.ref a2), .val (.ref a26), .val (.int r), .val (.int z186), .unset] [])) (fun _ kk => XS.icmpNo X49.here hx rfl (hb hby at_198) rfl (XT.ii_lt_f hc55) kk) ?_
                refine own_st (G := T47.setTop (mkF m 203 #[.val (.int p0), .val (.int p1), .val (.int p2), .val (.int p3), .val (.int p4), .val (.int p5), .val (.int v4), .val (.int z25), .val (.int v33), .val (.int z53), .val (.int v61), .val (.int v72), .val (.int z94), .val (.int z116), .val (.ref a1), .val (.ref a2), .val (.ref a26), .val (.int r), .val (.int z186), .unset] [(.int v61)])) (fun _ kk => XS.iload X49.here hx rfl (hb hby at_201) rfl kk) ?_
                refine own_st (G := T47.setTop (mkF m 205 #[.val (.int p0), .val (.int p1), .val (.int p2), .val (.int p3), .val (.int p4), .val (.int p5), .val (.int v4), .val (.int z25), .val (.int v33), .val (.int z53), .val (.int v61), .val (.int v72), .val (.int z94), .val (.int z116), .val (.ref a1), .val (.ref a2), .val (.ref a26), .val (.int r), .val (.int z186), .unset] [(.int z94), (.int v61)])) (fun _ kk => XS.iload X49.here hx rfl (hb hby at_203) rfl kk) ?_
                by_cases hc58 : v61 = z94
                · skip
                  refine own_st (G := T47.setTop (mkF m 208 #[.val (.int p0), .val (.int p1), .val (.int p2), .val (.int p3), .val (.int p4), .val (.int p5), .val (.int v4), .val (.int z25), .val (.int v33), .val (.int z53), .val (.int v61), .val (.int v72), .val (.int z94), .val (.int z116), .val (.ref a1), .val (.ref a2), .val (.ref a26), .val (.int r), .val (.int z186), .unset] [])) (fun _ kk => XS.icmpNo X49.here hx rfl (hb hby at_205) rfl (XT.ii_ne_f hc58) kk) ?_
                  refine own_st (G := T47.setTop (mkF m 210 #[.val (.int p0), .val (.int p1), .val (.int p2), .val (.int p3), .val (.int p4), .val (.int p5), .val (.int v4), .val (.int z25), .val (.int v33), .val (.int z53), .val (.int v61), .val (.int v72), .val (.int z94), .val (.int z116), .val (.ref a1), .val (.ref a2), .val (.ref a26), .val (.int r), .val (.int z186), .unset] [(.int v33)])) (fun _ kk => XS.iload X49.here hx rfl (hb hby at_208) rfl kk) ?_
                  refine own_st (G := T47.setTop (mkF m 211 #[.val (.int p0), .val (.int p1), .val (.int p2), .val (.int p3), .val (.int p4), .val (.int p5), .val (.int v4), .val (.int z25), .val (.int v33), .val (.int z53), .val (.int v61), .val (.int v72), .val (.int z94), .val (.int z116), .val (.ref a1), .val (.ref a2), .val (.ref a26), .val (.int r), .val (.int z186), .unset] [(.int (2 : Int32)), (.int v33)])) (fun _ kk => XT.iconstV X49.here hx rfl (2 : Int32) (hb hby at_210) (by decide) kk) ?_
                  by_cases hc59 : v33 < (2 : Int32)
                  · skip
                    refine own_st (G := T47.setTop (mkF m 221 #[.val (.int p0), .val (.int p1), .val (.int p2), .val (.int p3), .val (.int p4), .val (.int p5), .val (.int v4), .val (.int z25), .val (.int v33), .val (.int z53), .val (.int v61), .val (.int v72), .val (.int z94), .val (.int z116), .val (.ref a1), .val (.ref a2), .val (.ref a26), .val (.int r), .val (.int z186), .unset] [])) (fun _ kk => XS.icmpYes X49.here hx rfl (pc0 := 211) (pc' := 221) rfl (hb hby at_211) rfl (XT.ii_lt_t hc59) (by decide) (by decide) kk) ?_
                    refine own_st (G := T47.setTop (mkF m 222 #[.val (.int p0), .val (.int p1), .val (.int p2), .val (.int p3), .val (.int p4), .val (.int p5), .val (.int v4), .val (.int z25), .val (.int v33), .val (.int z53), .val (.int v61), .val (.int v72), .val (.int z94), .val (.int z116), .val (.ref a1), .val (.ref a2), .val (.ref a26), .val (.int r), .val (.int z186), .unset] [(.int (1 : Int32))])) (fun _ kk => XT.iconstV X49.here hx rfl (1 : Int32) (hb hby at_221) (by decide) kk) ?_
                    refine own_st (G := T47.setTop (mkF m 226 #[.val (.int p0), .val (.int p1), .val (.int p2), .val (.int p3), .val (.int p4), .val (.int p5), .val (.int v4), .val (.int z25), .val (.int v33), .val (.int z53), .val (.int v61), .val (.int v72), .val (.int z94), .val (.int z116), .val (.ref a1), .val (.ref a2), .val (.ref a26), .val (.int r), .val (.int z186), .unset] [(.int (1 : Int32))])) (fun _ kk => XS.goto X49.here hx rfl (pc0 := 222) (pc' := 226) rfl (hb hby at_222) (by decide) (by decide) kk) ?_
                    exact j226 _ (by rw [if_pos hc54, if_neg hc55, if_pos hc58, if_pos hc59])
                  · skip
                    refine own_st (G := T47.setTop (mkF m 214 #[.val (.int p0), .val (.int p1), .val (.int p2), .val (.int p3), .val (.int p4), .val (.int p5), .val (.int v4), .val (.int z25), .val (.int v33), .val (.int z53), .val (.int v61), .val (.int v72), .val (.int z94), .val (.int z116), .val (.ref a1), .val (.ref a2), .val (.ref a26), .val (.int r), .val (.int z186), .unset] [])) (fun _ kk => XS.icmpNo X49.here hx rfl (hb hby at_211) rfl (XT.ii_lt_f hc59) kk) ?_
                    refine own_st (G := T47.setTop (mkF m 216 #[.val (.int p0), .val (.int p1), .val (.int p2), .val (.int p3), .val (.int p4), .val (.int p5), .val (.int v4), .val (.int z25), .val (.int v33), .val (.int z53), .val (.int v61), .val (.int v72), .val (.int z94), .val (.int z116), .val (.ref a1), .val (.ref a2), .val (.ref a26), .val (.int r), .val (.int z186), .unset] [(.int v72)])) (fun _ kk => XS.iload X49.here hx rfl (hb hby at_214) rfl kk) ?_
                    refine own_st (G := T47.setTop (mkF m 218 #[.val (.int p0), .val (.int p1), .val (.int p2), .val (.int p3), .val (.int p4), .val (.int p5), .val (.int v4), .val (.int z25), .val (.int v33), .val (.int z53), .val (.int v61), .val (.int v72), .val (.int z94), .val (.int z116), .val (.ref a1), .val (.ref a2), .val (.ref a26), .val (.int r), .val (.int z186), .unset] [(.int z116), (.int v72)])) (fun _ kk => XS.iload X49.here hx rfl (hb hby at_216) rfl kk) ?_
                    by_cases hc60 : v72 = z116
                    · skip
                      refine own_st (G := T47.setTop (mkF m 221 #[.val (.int p0), .val (.int p1), .val (.int p2), .val (.int p3), .val (.int p4), .val (.int p5), .val (.int v4), .val (.int z25), .val (.int v33), .val (.int z53), .val (.int v61), .val (.int v72), .val (.int z94), .val (.int z116), .val (.ref a1), .val (.ref a2), .val (.ref a26), .val (.int r), .val (.int z186), .unset] [])) (fun _ kk => XS.icmpNo X49.here hx rfl (hb hby at_218) rfl (XT.ii_ne_f hc60) kk) ?_
                      refine own_st (G := T47.setTop (mkF m 222 #[.val (.int p0), .val (.int p1), .val (.int p2), .val (.int p3), .val (.int p4), .val (.int p5), .val (.int v4), .val (.int z25), .val (.int v33), .val (.int z53), .val (.int v61), .val (.int v72), .val (.int z94), .val (.int z116), .val (.ref a1), .val (.ref a2), .val (.ref a26), .val (.int r), .val (.int z186), .unset] [(.int (1 : Int32))])) (fun _ kk => XT.iconstV X49.here hx rfl (1 : Int32) (hb hby at_221) (by decide) kk) ?_
                      refine own_st (G := T47.setTop (mkF m 226 #[.val (.int p0), .val (.int p1), .val (.int p2), .val (.int p3), .val (.int p4), .val (.int p5), .val (.int v4), .val (.int z25), .val (.int v33), .val (.int z53), .val (.int v61), .val (.int v72), .val (.int z94), .val (.int z116), .val (.ref a1), .val (.ref a2), .val (.ref a26), .val (.int r), .val (.int z186), .unset] [(.int (1 : Int32))])) (fun _ kk => XS.goto X49.here hx rfl (pc0 := 222) (pc' := 226) rfl (hb hby at_222) (by decide) (by decide) kk) ?_
                      exact j226 _ (by rw [if_pos hc54, if_neg hc55, if_pos hc58, if_neg hc59, if_pos hc60])
                    · skip
                      refine own_st (G := T47.setTop (mkF m 225 #[.val (.int p0), .val (.int p1), .val (.int p2), .val (.int p3), .val (.int p4), .val (.int p5), .val (.int v4), .val (.int z25), .val (.int v33), .val (.int z53), .val (.int v61), .val (.int v72), .val (.int z94), .val (.int z116), .val (.ref a1), .val (.ref a2), .val (.ref a26), .val (.int r), .val (.int z186), .unset] [])) (fun _ kk => XS.icmpYes X49.here hx rfl (pc0 := 218) (pc' := 225) rfl (hb hby at_218) rfl (XT.ii_ne_t hc60) (by decide) (by decide) kk) ?_
                      refine own_st (G := T47.setTop (mkF m 226 #[.val (.int p0), .val (.int p1), .val (.int p2), .val (.int p3), .val (.int p4), .val (.int p5), .val (.int v4), .val (.int z25), .val (.int v33), .val (.int z53), .val (.int v61), .val (.int v72), .val (.int z94), .val (.int z116), .val (.ref a1), .val (.ref a2), .val (.ref a26), .val (.int r), .val (.int z186), .unset] [(.int (0 : Int32))])) (fun _ kk => XT.iconstV X49.here hx rfl (0 : Int32) (hb hby at_225) (by decide) kk) ?_
                      exact j226 _ (by rw [if_pos hc54, if_neg hc55, if_pos hc58, if_neg hc59, if_neg hc60])
                · skip
                  refine own_st (G := T47.setTop (mkF m 225 #[.val (.int p0), .val (.int p1), .val (.int p2), .val (.int p3), .val (.int p4), .val (.int p5), .val (.int v4), .val (.int z25), .val (.int v33), .val (.int z53), .val (.int v61), .val (.int v72), .val (.int z94), .val (.int z116), .val (.ref a1), .val (.ref a2), .val (.ref a26), .val (.int r), .val (.int z186), .unset] [])) (fun _ kk => XS.icmpYes X49.here hx rfl (pc0 := 205) (pc' := 225) rfl (hb hby at_205) rfl (XT.ii_ne_t hc58) (by decide) (by decide) kk) ?_
                  refine own_st (G := T47.setTop (mkF m 226 #[.val (.int p0), .val (.int p1), .val (.int p2), .val (.int p3), .val (.int p4), .val (.int p5), .val (.int v4), .val (.int z25), .val (.int v33), .val (.int z53), .val (.int v61), .val (.int v72), .val (.int z94), .val (.int z116), .val (.ref a1), .val (.ref a2), .val (.ref a26), .val (.int r), .val (.int z186), .unset] [(.int (0 : Int32))])) (fun _ kk => XT.iconstV X49.here hx rfl (0 : Int32) (hb hby at_225) (by decide) kk) ?_
                  exact j226 _ (by rw [if_pos hc54, if_neg hc55, if_neg hc58])
            · skip
              refine own_st (G := T47.setTop (mkF m 225 #[.val (.int p0), .val (.int p1), .val (.int p2), .val (.int p3), .val (.int p4), .val (.int p5), .val (.int v4), .val (.int z25), .val (.int v33), .val (.int z53), .val (.int v61), .val (.int v72), .val (.int z94), .val (.int z116), .val (.ref a1), .val (.ref a2), .val (.ref a26), .val (.int r), .val (.int z186), .unset] [])) (fun _ kk => XS.icmpYes X49.here hx rfl (pc0 := 192) (pc' := 225) rfl (hb hby at_192) rfl (XT.ii_ne_t hc54) (by decide) (by decide) kk) ?_
              refine own_st (G := T47.setTop (mkF m 226 #[.val (.int p0), .val (.int p1), .val (.int p2), .val (.int p3), .val (.int p4), .val (.int p5), .val (.int v4), .val (.int z25), .val (.int v33), .val (.int z53), .val (.int v61), .val (.int v72), .val (.int z94), .val (.int z116), .val (.ref a1), .val (.ref a2), .val (.ref a26), .val (.int r), .val (.int z186), .unset] [(.int (0 : Int32))])) (fun _ kk => XT.iconstV X49.here hx rfl (0 : Int32) (hb hby at_225) (by decide) kk) ?_
              exact j226 _ (by rw [if_neg hc54])
          by_cases hc61 : v4 = z25
          · skip
            refine own_st (G := T47.setTop (mkF m 181 #[.val (.int p0), .val (.int p1), .val (.int p2), .val (.int p3), .val (.int p4), .val (.int p5), .val (.int v4), .val (.int z25), .val (.int v33), .val (.int z53), .val (.int v61), .val (.int v72), .val (.int z94), .val (.int z116), .val (.ref a1), .val (.ref a2), .val (.ref a26), .val (.int r), .unset, .unset] [])) (fun _ kk => XS.icmpNo X49.here hx rfl (hb hby at_178) rfl (XT.ii_ne_f hc61) kk) ?_
            refine own_st (G := T47.setTop (mkF m 182 #[.val (.int p0), .val (.int p1), .val (.int p2), .val (.int p3), .val (.int p4), .val (.int p5), .val (.int v4), .val (.int z25), .val (.int v33), .val (.int z53), .val (.int v61), .val (.int v72), .val (.int z94), .val (.int z116), .val (.ref a1), .val (.ref a2), .val (.ref a26), .val (.int r), .unset, .unset] [(.int (1 : Int32))])) (fun _ kk => XT.iconstV X49.here hx rfl (1 : Int32) (hb hby at_181) (by decide) kk) ?_
            refine own_st (G := T47.setTop (mkF m 186 #[.val (.int p0), .val (.int p1), .val (.int p2), .val (.int p3), .val (.int p4), .val (.int p5), .val (.int v4), .val (.int z25), .val (.int v33), .val (.int z53), .val (.int v61), .val (.int v72), .val (.int z94), .val (.int z116), .val (.ref a1), .val (.ref a2), .val (.ref a26), .val (.int r), .unset, .unset] [(.int (1 : Int32))])) (fun _ kk => XS.goto X49.here hx rfl (pc0 := 182) (pc' := 186) rfl (hb hby at_182) (by decide) (by decide) kk) ?_
            exact j186 _ (by rw [if_pos hc61])
          · skip
            refine own_st (G := T47.setTop (mkF m 185 #[.val (.int p0), .val (.int p1), .val (.int p2), .val (.int p3), .val (.int p4), .val (.int p5), .val (.int v4), .val (.int z25), .val (.int v33), .val (.int z53), .val (.int v61), .val (.int v72), .val (.int z94), .val (.int z116), .val (.ref a1), .val (.ref a2), .val (.ref a26), .val (.int r), .unset, .unset] [])) (fun _ kk => XS.icmpYes X49.here hx rfl (pc0 := 178) (pc' := 185) rfl (hb hby at_178) rfl (XT.ii_ne_t hc61) (by decide) (by decide) kk) ?_
            refine own_st (G := T47.setTop (mkF m 186 #[.val (.int p0), .val (.int p1), .val (.int p2), .val (.int p3), .val (.int p4), .val (.int p5), .val (.int v4), .val (.int z25), .val (.int v33), .val (.int z53), .val (.int v61), .val (.int v72), .val (.int z94), .val (.int z116), .val (.ref a1), .val (.ref a2), .val (.ref a26), .val (.int r), .unset, .unset] [(.int (0 : Int32))])) (fun _ kk => XT.iconstV X49.here hx rfl (0 : Int32) (hb hby at_185) (by decide) kk) ?_
            exact j186 _ (by rw [if_neg hc61])
        by_cases hc62 : (p3 &&& (2 : Int32)) = (0 : Int32)
        · skip
          refine own_st (G := T0.setTop (mkF m 107 #[.val (.int p0), .val (.int p1), .val (.int p2), .val (.int p3), .val (.int p4), .val (.int p5), .val (.int v4), .val (.int z25), .val (.int v33), .val (.int z53), .val (.int v61), .val (.int v72), .val (.int z94), .unset, .unset, .unset, .unset, .unset, .unset, .unset] [])) (fun _ kk => XS.ifYes X0.here hx rfl (pc0 := 99) (pc' := 107) rfl (hb hby at_99) rfl (XT.i0_eq_t hc62) (by decide) (by decide) kk) ?_
          refine own_st (G := T0.setTop (mkF m 108 #[.val (.int p0), .val (.int p1), .val (.int p2), .val (.int p3), .val (.int p4), .val (.int p5), .val (.int v4), .val (.int z25), .val (.int v33), .val (.int z53), .val (.int v61), .val (.int v72), .val (.int z94), .unset, .unset, .unset, .unset, .unset, .unset, .unset] [(.int p3)])) (fun _ kk => XS.iloadN X0.here hx rfl (hb hby at_107) rfl kk) ?_
          refine own_st (G := T0.setTop (mkF m 110 #[.val (.int p0), .val (.int p1), .val (.int p2), .val (.int p3), .val (.int p4), .val (.int p5), .val (.int v4), .val (.int z25), .val (.int v33), .val (.int z53), .val (.int v61), .val (.int v72), .val (.int z94), .unset, .unset, .unset, .unset, .unset, .unset, .unset] [(.int (16 : Int32)), (.int p3)])) (fun _ kk => XT.bipushV X0.here hx rfl (16 : Int32) (hb hby at_108) (by decide) kk) ?_
          refine own_st (G := T0.setTop (mkF m 111 #[.val (.int p0), .val (.int p1), .val (.int p2), .val (.int p3), .val (.int p4), .val (.int p5), .val (.int v4), .val (.int z25), .val (.int v33), .val (.int z53), .val (.int v61), .val (.int v72), .val (.int z94), .unset, .unset, .unset, .unset, .unset, .unset, .unset] [(.int (XT.ushr p3 (16 : Int32)))])) (fun _ kk => XT.iushr X0.here hx rfl (hb hby at_110) rfl kk) ?_
          refine own_st (G := T0.setTop (mkF m 114 #[.val (.int p0), .val (.int p1), .val (.int p2), .val (.int p3), .val (.int p4), .val (.int p5), .val (.int v4), .val (.int z25), .val (.int v33), .val (.int z53), .val (.int v61), .val (.int v72), .val (.int z94), .unset, .unset, .unset, .unset, .unset, .unset, .unset] [(.int (255 : Int32)), (.int (XT.ushr p3 (16 : Int32)))])) (fun _ kk => XT.sipushV X0.here hx rfl (255 : Int32) (hb hby at_111) (by decide) kk) ?_
          refine own_st (G := T0.setTop (mkF m 115 #[.val (.int p0), .val (.int p1), .val (.int p2), .val (.int p3), .val (.int p4), .val (.int p5), .val (.int v4), .val (.int z25), .val (.int v33), .val (.int z53), .val (.int v61), .val (.int v72), .val (.int z94), .unset, .unset, .unset, .unset, .unset, .unset, .unset] [(.int ((XT.ushr p3 (16 : Int32)) &&& (255 : Int32)))])) (fun _ kk => XS.iand X0.here hx rfl (hb hby at_114) rfl kk) ?_
          refine own_st (G := T0.setTop (mkF m 116 #[.val (.int p0), .val (.int p1), .val (.int p2), .val (.int p3), .val (.int p4), .val (.int p5), .val (.int v4), .val (.int z25), .val (.int v33), .val (.int z53), .val (.int v61), .val (.int v72), .val (.int z94), .unset, .unset, .unset, .unset, .unset, .unset, .unset] [(.int ((XT.ushr p3 (16 : Int32)) &&& (255 : Int32)).toUInt32.toUInt16.toUInt32.toInt32)])) (fun _ kk => XS.i2c X0.here hx rfl (hb hby at_115) rfl kk) ?_
          exact j116 _ (by rw [if_pos hc62])
        · skip
          refine own_st (G := T0.setTop (mkF m 102 #[.val (.int p0), .val (.int p1), .val (.int p2), .val (.int p3), .val (.int p4), .val (.int p5), .val (.int v4), .val (.int z25), .val (.int v33), .val (.int z53), .val (.int v61), .val (.int v72), .val (.int z94), .unset, .unset, .unset, .unset, .unset, .unset, .unset] [])) (fun _ kk => XS.ifNo X0.here hx rfl (hb hby at_99) rfl (XT.i0_eq_f hc62) kk) ?_
          refine own_st (G := T0.setTop (mkF m 104 #[.val (.int p0), .val (.int p1), .val (.int p2), .val (.int p3), .val (.int p4), .val (.int p5), .val (.int v4), .val (.int z25), .val (.int v33), .val (.int z53), .val (.int v61), .val (.int v72), .val (.int z94), .unset, .unset, .unset, .unset, .unset, .unset, .unset] [(.int v72)])) (fun _ kk => XS.iload X0.here hx rfl (hb hby at_102) rfl kk) ?_
          refine own_st (G := T0.setTop (mkF m 116 #[.val (.int p0), .val (.int p1), .val (.int p2), .val (.int p3), .val (.int p4), .val (.int p5), .val (.int v4), .val (.int z25), .val (.int v33), .val (.int z53), .val (.int v61), .val (.int v72), .val (.int z94), .unset, .unset, .unset, .unset, .unset, .unset, .unset] [(.int v72)])) (fun _ kk => XS.goto X0.here hx rfl (pc0 := 104) (pc' := 116) rfl (hb hby at_104) (by decide) (by decide) kk) ?_
          exact j116 _ (by rw [if_neg hc62])
      by_cases hc63 : (p3 &&& (1 : Int32)) = (0 : Int32)
      · skip
        refine own_st (G := T0.setTop (mkF m 85 #[.val (.int p0), .val (.int p1), .val (.int p2), .val (.int p3), .val (.int p4), .val (.int p5), .val (.int v4), .val (.int z25), .val (.int v33), .val (.int z53), .val (.int v61), .val (.int v72), .unset, .unset, .unset, .unset, .unset, .unset, .unset, .unset] [])) (fun _ kk => XS.ifYes X0.here hx rfl (pc0 := 77) (pc' := 85) rfl (hb hby at_77) rfl (XT.i0_eq_t hc63) (by decide) (by decide) kk) ?_
        refine own_st (G := T0.setTop (mkF m 86 #[.val (.int p0), .val (.int p1), .val (.int p2), .val (.int p3), .val (.int p4), .val (.int p5), .val (.int v4), .val (.int z25), .val (.int v33), .val (.int z53), .val (.int v61), .val (.int v72), .unset, .unset, .unset, .unset, .unset, .unset, .unset, .unset] [(.int p3)])) (fun _ kk => XS.iloadN X0.here hx rfl (hb hby at_85) rfl kk) ?_
        refine own_st (G := T0.setTop (mkF m 88 #[.val (.int p0), .val (.int p1), .val (.int p2), .val (.int p3), .val (.int p4), .val (.int p5), .val (.int v4), .val (.int z25), .val (.int v33), .val (.int z53), .val (.int v61), .val (.int v72), .unset, .unset, .unset, .unset, .unset, .unset, .unset, .unset] [(.int (8 : Int32)), (.int p3)])) (fun _ kk => XT.bipushV X0.here hx rfl (8 : Int32) (hb hby at_86) (by decide) kk) ?_
        refine own_st (G := T0.setTop (mkF m 89 #[.val (.int p0), .val (.int p1), .val (.int p2), .val (.int p3), .val (.int p4), .val (.int p5), .val (.int v4), .val (.int z25), .val (.int v33), .val (.int z53), .val (.int v61), .val (.int v72), .unset, .unset, .unset, .unset, .unset, .unset, .unset, .unset] [(.int (XT.ushr p3 (8 : Int32)))])) (fun _ kk => XT.iushr X0.here hx rfl (hb hby at_88) rfl kk) ?_
        refine own_st (G := T0.setTop (mkF m 92 #[.val (.int p0), .val (.int p1), .val (.int p2), .val (.int p3), .val (.int p4), .val (.int p5), .val (.int v4), .val (.int z25), .val (.int v33), .val (.int z53), .val (.int v61), .val (.int v72), .unset, .unset, .unset, .unset, .unset, .unset, .unset, .unset] [(.int (255 : Int32)), (.int (XT.ushr p3 (8 : Int32)))])) (fun _ kk => XT.sipushV X0.here hx rfl (255 : Int32) (hb hby at_89) (by decide) kk) ?_
        refine own_st (G := T0.setTop (mkF m 93 #[.val (.int p0), .val (.int p1), .val (.int p2), .val (.int p3), .val (.int p4), .val (.int p5), .val (.int v4), .val (.int z25), .val (.int v33), .val (.int z53), .val (.int v61), .val (.int v72), .unset, .unset, .unset, .unset, .unset, .unset, .unset, .unset] [(.int ((XT.ushr p3 (8 : Int32)) &&& (255 : Int32)))])) (fun _ kk => XS.iand X0.here hx rfl (hb hby at_92) rfl kk) ?_
        refine own_st (G := T0.setTop (mkF m 94 #[.val (.int p0), .val (.int p1), .val (.int p2), .val (.int p3), .val (.int p4), .val (.int p5), .val (.int v4), .val (.int z25), .val (.int v33), .val (.int z53), .val (.int v61), .val (.int v72), .unset, .unset, .unset, .unset, .unset, .unset, .unset, .unset] [(.int ((XT.ushr p3 (8 : Int32)) &&& (255 : Int32)).toUInt32.toUInt16.toUInt32.toInt32)])) (fun _ kk => XS.i2c X0.here hx rfl (hb hby at_93) rfl kk) ?_
        exact j94 _ (by rw [if_pos hc63])
      · skip
        refine own_st (G := T0.setTop (mkF m 80 #[.val (.int p0), .val (.int p1), .val (.int p2), .val (.int p3), .val (.int p4), .val (.int p5), .val (.int v4), .val (.int z25), .val (.int v33), .val (.int z53), .val (.int v61), .val (.int v72), .unset, .unset, .unset, .unset, .unset, .unset, .unset, .unset] [])) (fun _ kk => XS.ifNo X0.here hx rfl (hb hby at_77) rfl (XT.i0_eq_f hc63) kk) ?_
        refine own_st (G := T0.setTop (mkF m 82 #[.val (.int p0), .val (.int p1), .val (.int p2), .val (.int p3), .val (.int p4), .val (.int p5), .val (.int v4), .val (.int z25), .val (.int v33), .val (.int z53), .val (.int v61), .val (.int v72), .unset, .unset, .unset, .unset, .unset, .unset, .unset, .unset] [(.int v61)])) (fun _ kk => XS.iload X0.here hx rfl (hb hby at_80) rfl kk) ?_
        refine own_st (G := T0.setTop (mkF m 94 #[.val (.int p0), .val (.int p1), .val (.int p2), .val (.int p3), .val (.int p4), .val (.int p5), .val (.int v4), .val (.int z25), .val (.int v33), .val (.int z53), .val (.int v61), .val (.int v72), .unset, .unset, .unset, .unset, .unset, .unset, .unset, .unset] [(.int v61)])) (fun _ kk => XS.goto X0.here hx rfl (pc0 := 82) (pc' := 94) rfl (hb hby at_82) (by decide) (by decide) kk) ?_
        exact j94 _ (by rw [if_neg hc63])
    by_cases hc64 : ((XT.ushr p1 (2 : Int32)) &&& (1 : Int32)) = (0 : Int32)
    · skip
      refine own_st (G := T0.setTop (mkF m 48 #[.val (.int p0), .val (.int p1), .val (.int p2), .val (.int p3), .val (.int p4), .val (.int p5), .val (.int v4), .val (.int z25), .val (.int v33), .unset, .unset, .unset, .unset, .unset, .unset, .unset, .unset, .unset, .unset, .unset] [])) (fun _ kk => XS.ifYes X0.here hx rfl (pc0 := 40) (pc' := 48) rfl (hb hby at_40) rfl (XT.i0_eq_t hc64) (by decide) (by decide) kk) ?_
      refine own_st (G := T0.setTop (mkF m 49 #[.val (.int p0), .val (.int p1), .val (.int p2), .val (.int p3), .val (.int p4), .val (.int p5), .val (.int v4), .val (.int z25), .val (.int v33), .unset, .unset, .unset, .unset, .unset, .unset, .unset, .unset, .unset, .unset, .unset] [(.int p1)])) (fun _ kk => XS.iloadN X0.here hx rfl (hb hby at_48) rfl kk) ?_
      refine own_st (G := T0.setTop (mkF m 50 #[.val (.int p0), .val (.int p1), .val (.int p2), .val (.int p3), .val (.int p4), .val (.int p5), .val (.int v4), .val (.int z25), .val (.int v33), .unset, .unset, .unset, .unset, .unset, .unset, .unset, .unset, .unset, .unset, .unset] [(.int (3 : Int32)), (.int p1)])) (fun _ kk => XT.iconstV X0.here hx rfl (3 : Int32) (hb hby at_49) (by decide) kk) ?_
      refine own_st (G := T0.setTop (mkF m 51 #[.val (.int p0), .val (.int p1), .val (.int p2), .val (.int p3), .val (.int p4), .val (.int p5), .val (.int v4), .val (.int z25), .val (.int v33), .unset, .unset, .unset, .unset, .unset, .unset, .unset, .unset, .unset, .unset, .unset] [(.int (XT.ushr p1 (3 : Int32)))])) (fun _ kk => XT.iushr X0.here hx rfl (hb hby at_50) rfl kk) ?_
      refine own_st (G := T0.setTop (mkF m 52 #[.val (.int p0), .val (.int p1), .val (.int p2), .val (.int p3), .val (.int p4), .val (.int p5), .val (.int v4), .val (.int z25), .val (.int v33), .unset, .unset, .unset, .unset, .unset, .unset, .unset, .unset, .unset, .unset, .unset] [(.int (3 : Int32)), (.int (XT.ushr p1 (3 : Int32)))])) (fun _ kk => XT.iconstV X0.here hx rfl (3 : Int32) (hb hby at_51) (by decide) kk) ?_
      refine own_st (G := T0.setTop (mkF m 53 #[.val (.int p0), .val (.int p1), .val (.int p2), .val (.int p3), .val (.int p4), .val (.int p5), .val (.int v4), .val (.int z25), .val (.int v33), .unset, .unset, .unset, .unset, .unset, .unset, .unset, .unset, .unset, .unset, .unset] [(.int ((XT.ushr p1 (3 : Int32)) % (3 : Int32)))])) (fun _ kk => iremM X0 hx rfl (hb hby at_52) rfl (by decide) kk) ?_
      exact j53 _ (by rw [if_pos hc64])
    · skip
      refine own_st (G := T0.setTop (mkF m 43 #[.val (.int p0), .val (.int p1), .val (.int p2), .val (.int p3), .val (.int p4), .val (.int p5), .val (.int v4), .val (.int z25), .val (.int v33), .unset, .unset, .unset, .unset, .unset, .unset, .unset, .unset, .unset, .unset, .unset] [])) (fun _ kk => XS.ifNo X0.here hx rfl (hb hby at_40) rfl (XT.i0_eq_f hc64) kk) ?_
      refine own_st (G := T0.setTop (mkF m 45 #[.val (.int p0), .val (.int p1), .val (.int p2), .val (.int p3), .val (.int p4), .val (.int p5), .val (.int v4), .val (.int z25), .val (.int v33), .unset, .unset, .unset, .unset, .unset, .unset, .unset, .unset, .unset, .unset, .unset] [(.int v33)])) (fun _ kk => XS.iload X0.here hx rfl (hb hby at_43) rfl kk) ?_
      refine own_st (G := T0.setTop (mkF m 53 #[.val (.int p0), .val (.int p1), .val (.int p2), .val (.int p3), .val (.int p4), .val (.int p5), .val (.int v4), .val (.int z25), .val (.int v33), .unset, .unset, .unset, .unset, .unset, .unset, .unset, .unset, .unset, .unset, .unset] [(.int v33)])) (fun _ kk => XS.goto X0.here hx rfl (pc0 := 45) (pc' := 53) rfl (hb hby at_45) (by decide) (by decide) kk) ?_
      exact j53 _ (by rw [if_neg hc64])
  by_cases hc65 : ((XT.ushr p0 (3 : Int32)) &&& (1 : Int32)) = (0 : Int32)
  · skip
    refine own_st (G := T0.setTop (mkF m 19 #[.val (.int p0), .val (.int p1), .val (.int p2), .val (.int p3), .val (.int p4), .val (.int p5), .val (.int v4), .unset, .unset, .unset, .unset, .unset, .unset, .unset, .unset, .unset, .unset, .unset, .unset, .unset] [])) (fun _ kk => XS.ifYes X0.here hx rfl (pc0 := 11) (pc' := 19) rfl (hb hby at_11) rfl (XT.i0_eq_t hc65) (by decide) (by decide) kk) ?_
    refine own_st (G := T0.setTop (mkF m 20 #[.val (.int p0), .val (.int p1), .val (.int p2), .val (.int p3), .val (.int p4), .val (.int p5), .val (.int v4), .unset, .unset, .unset, .unset, .unset, .unset, .unset, .unset, .unset, .unset, .unset, .unset, .unset] [(.int p0)])) (fun _ kk => XS.iloadN X0.here hx rfl (hb hby at_19) rfl kk) ?_
    refine own_st (G := T0.setTop (mkF m 21 #[.val (.int p0), .val (.int p1), .val (.int p2), .val (.int p3), .val (.int p4), .val (.int p5), .val (.int v4), .unset, .unset, .unset, .unset, .unset, .unset, .unset, .unset, .unset, .unset, .unset, .unset, .unset] [(.int (4 : Int32)), (.int p0)])) (fun _ kk => XT.iconstV X0.here hx rfl (4 : Int32) (hb hby at_20) (by decide) kk) ?_
    refine own_st (G := T0.setTop (mkF m 22 #[.val (.int p0), .val (.int p1), .val (.int p2), .val (.int p3), .val (.int p4), .val (.int p5), .val (.int v4), .unset, .unset, .unset, .unset, .unset, .unset, .unset, .unset, .unset, .unset, .unset, .unset, .unset] [(.int (XT.ushr p0 (4 : Int32)))])) (fun _ kk => XT.iushr X0.here hx rfl (hb hby at_21) rfl kk) ?_
    refine own_st (G := T0.setTop (mkF m 24 #[.val (.int p0), .val (.int p1), .val (.int p2), .val (.int p3), .val (.int p4), .val (.int p5), .val (.int v4), .unset, .unset, .unset, .unset, .unset, .unset, .unset, .unset, .unset, .unset, .unset, .unset, .unset] [(.int (7 : Int32)), (.int (XT.ushr p0 (4 : Int32)))])) (fun _ kk => XT.bipushV X0.here hx rfl (7 : Int32) (hb hby at_22) (by decide) kk) ?_
    refine own_st (G := T0.setTop (mkF m 25 #[.val (.int p0), .val (.int p1), .val (.int p2), .val (.int p3), .val (.int p4), .val (.int p5), .val (.int v4), .unset, .unset, .unset, .unset, .unset, .unset, .unset, .unset, .unset, .unset, .unset, .unset, .unset] [(.int ((XT.ushr p0 (4 : Int32)) &&& (7 : Int32)))])) (fun _ kk => XS.iand X0.here hx rfl (hb hby at_24) rfl kk) ?_
    exact j25 _ (by rw [if_pos hc65])
  · skip
    refine own_st (G := T0.setTop (mkF m 14 #[.val (.int p0), .val (.int p1), .val (.int p2), .val (.int p3), .val (.int p4), .val (.int p5), .val (.int v4), .unset, .unset, .unset, .unset, .unset, .unset, .unset, .unset, .unset, .unset, .unset, .unset, .unset] [])) (fun _ kk => XS.ifNo X0.here hx rfl (hb hby at_11) rfl (XT.i0_eq_f hc65) kk) ?_
    refine own_st (G := T0.setTop (mkF m 16 #[.val (.int p0), .val (.int p1), .val (.int p2), .val (.int p3), .val (.int p4), .val (.int p5), .val (.int v4), .unset, .unset, .unset, .unset, .unset, .unset, .unset, .unset, .unset, .unset, .unset, .unset, .unset] [(.int v4)])) (fun _ kk => XS.iload X0.here hx rfl (hb hby at_14) rfl kk) ?_
    refine own_st (G := T0.setTop (mkF m 25 #[.val (.int p0), .val (.int p1), .val (.int p2), .val (.int p3), .val (.int p4), .val (.int p5), .val (.int v4), .unset, .unset, .unset, .unset, .unset, .unset, .unset, .unset, .unset, .unset, .unset, .unset, .unset] [(.int v4)])) (fun _ kk => XS.goto X0.here hx rfl (pc0 := 16) (pc' := 25) rfl (hb hby at_16) (by decide) (by decide) kk) ?_
    exact j25 _ (by rw [if_neg hc65])
set_option maxRecDepth 65536 in
set_option maxHeartbeats 40000000 in
theorem comes_1 {Post : Tables → Env → Array Value → State → Outcome → State → Prop} (hpost : ∀ tb e args s v u, (limb_1_1.after args s (.returned v) u = true ∧ limb_1_2.after args s (.returned v) u = true ∧ True) → FramedW s (.returned v) u (Jvm.fieldLocs frame_1_writes args s ++ Jvm.arrayLocs frame_1_arrays args s ++ Jvm.staticLocs frame_1_statics s) 24 1152 → Post tb e args s (.returned v) u) :
    ArmFor flags0 classFile x code maxLocals ret World_1 tables_1 room_1 Calls_1 rest_1 Pre_1 Post := by
  intro l hfl _ _ p e ha hc hk s m args below hf hA hF happ hP
  obtain ⟨hcalls, hrest, hpre⟩ := hP
  obtain ⟨-, -, -, hnamed, -, -, -, hat⟩ := (Spec.applies_iff hf).mp happ
  obtain ⟨hg, hn⟩ := and_e (Cond.before_iff.mp (show (Jvm.Cond.and given_1 narrow_1).before args s = true from hpre))
  obtain ⟨hct, hk0⟩ := and_e hg
  obtain ⟨ha0, hk1⟩ := and_e hk0
  obtain ⟨ha1, hk2⟩ := and_e hk1
  obtain ⟨ha2, hk3⟩ := and_e hk2
  obtain ⟨ha3, hk4⟩ := and_e hk3
  obtain ⟨ha4, hk5⟩ := and_e hk4
  have ha5 := hk5
  obtain ⟨w0, w1, w2, w3, w4, w5, rfl⟩ : ∃ w0 w1 w2 w3 w4 w5 : Value, args = #[w0, w1, w2, w3, w4, w5] := by
    have hs : args.size = 6 := by simpa [Cond.value, given_1] using hct
    obtain ⟨L⟩ := args
    match L, hs with
    | [w0, w1, w2, w3, w4, w5], _ => exact ⟨w0, w1, w2, w3, w4, w5, rfl⟩
  have hw := fun d (hd : d ∈ tables_1) => atoms_spec (ws := Jvm.Cond.code x code maxLocals ret :: tables_1) hat d (List.mem_cons_of_mem _ hd)
  obtain ⟨i0, e0⟩ := is_v ha0
  obtain rfl : w0 = (.int i0) := Option.some.inj e0
  obtain ⟨i1, e1⟩ := is_v ha1
  obtain rfl : w1 = (.int i1) := Option.some.inj e1
  obtain ⟨i2, e2⟩ := is_v ha2
  obtain rfl : w2 = (.int i2) := Option.some.inj e2
  obtain ⟨i3, e3⟩ := is_v ha3
  obtain rfl : w3 = (.int i3) := Option.some.inj e3
  obtain ⟨i4, e4⟩ := is_v ha4
  obtain rfl : w4 = (.int i4) := Option.some.inj e4
  obtain ⟨i5, e5⟩ := is_v ha5
  obtain rfl : w5 = (.int i5) := Option.some.inj e5
  obtain ⟨hsets, -⟩ := atoms_of _ (show (jdkStatics_1.foldr Jvm.Cond.and restOwn_1).before _ s = true from (rest_1_c_eq ▸ (show rest_1_c.before _ s = true from hrest)))
  obtain ⟨vc, ec⟩ := is_v (Cond.before_iff.mp (hsets _ (List.mem_of_getElem? (i := 1) rfl)))
  have CS0 : Sta s s.heap "java/lang/String" "COMPACT_STRINGS" "Z" (.int vc) := Sta.start ec (Or.inl (hsets _ (List.mem_of_getElem? (i := 0) rfl)))
  have hcs : ¬ vc = (0 : Int32) := gotF (Cond.eq_ints ec (Term.int_eval (0))) (not_v (Cond.before_iff.mp (hsets _ (List.mem_of_getElem? (i := 2) rfl))))
  have held : Jvm.Lit.constHeld s "java/lang/String" 7 := hcalls.1 ("java/lang/String", 7) (by decide)
  obtain ⟨nn0, mm0⟩ := and_e hn
  obtain ⟨nn1, mm1⟩ := and_e mm0
  obtain ⟨nn2, mm2⟩ := and_e mm1
  obtain ⟨nn3, mm3⟩ := and_e mm2
  obtain ⟨nn4, mm4⟩ := and_e mm3
  obtain ⟨nn5, mm5⟩ := and_e mm4
  obtain ⟨nn6, mm6⟩ := and_e mm5
  obtain ⟨nn7, mm7⟩ := and_e mm6
  obtain ⟨nn8, mm8⟩ := and_e mm7
  obtain ⟨nn9, mm9⟩ := and_e mm8
  obtain ⟨nn10, mm10⟩ := and_e mm9
  obtain ⟨nn11, mm11⟩ := and_e mm10
  obtain ⟨nn12, mm12⟩ := and_e mm11
  obtain ⟨nn13, mm13⟩ := and_e mm12
  obtain ⟨nn14, mm14⟩ := and_e mm13
  have nn15 := mm14
  obtain ⟨a_HEADER, ea_HEADER⟩ := exa_v nn0
  have S_HEADER : Sta s s.heap "com/example/libbuchi/libbuchi/formats/HoaLexer$Kind" "HEADER" "Lcom/example/libbuchi/libbuchi/formats/HoaLexer$Kind;" (.ref a_HEADER) := Sta.start ea_HEADER (Or.inr ⟨(own_w hw 34 rfl), (own_w hw 35 rfl)⟩)
  have E_HEADER : Exa s s.heap a_HEADER "com/example/libbuchi/libbuchi/formats/HoaLexer$Kind" := Exa.start ea_HEADER nn0
  obtain ⟨a_STRING, ea_STRING⟩ := exa_v nn1
  have S_STRING : Sta s s.heap "com/example/libbuchi/libbuchi/formats/HoaLexer$Kind" "STRING" "Lcom/example/libbuchi/libbuchi/formats/HoaLexer$Kind;" (.ref a_STRING) := Sta.start ea_STRING (Or.inr ⟨(own_w hw 34 rfl), (own_w hw 80 rfl)⟩)
  have E_STRING : Exa s s.heap a_STRING "com/example/libbuchi/libbuchi/formats/HoaLexer$Kind" := Exa.start ea_STRING nn1
  obtain ⟨a_SYMBOL, ea_SYMBOL⟩ := exa_v nn4
  have S_SYMBOL : Sta s s.heap "com/example/libbuchi/libbuchi/formats/HoaLexer$Kind" "SYMBOL" "Lcom/example/libbuchi/libbuchi/formats/HoaLexer$Kind;" (.ref a_SYMBOL) := Sta.start ea_SYMBOL (Or.inr ⟨(own_w hw 34 rfl), (own_w hw 82 rfl)⟩)
  have E_SYMBOL : Exa s s.heap a_SYMBOL "com/example/libbuchi/libbuchi/formats/HoaLexer$Kind" := Exa.start ea_SYMBOL nn4
  obtain ⟨a_END, ea_END⟩ := exa_v nn5
  have S_END : Sta s s.heap "com/example/libbuchi/libbuchi/formats/HoaLexer$Kind" "END" "Lcom/example/libbuchi/libbuchi/formats/HoaLexer$Kind;" (.ref a_END) := Sta.start ea_END (Or.inr ⟨(own_w hw 34 rfl), (own_w hw 84 rfl)⟩)
  have E_END : Exa s s.heap a_END "com/example/libbuchi/libbuchi/formats/HoaLexer$Kind" := Exa.start ea_END nn5
  obtain ⟨a_ALIAS, ea_ALIAS⟩ := exa_v nn6
  have S_ALIAS : Sta s s.heap "com/example/libbuchi/libbuchi/formats/HoaLexer$Kind" "ALIAS" "Lcom/example/libbuchi/libbuchi/formats/HoaLexer$Kind;" (.ref a_ALIAS) := Sta.start ea_ALIAS (Or.inr ⟨(own_w hw 34 rfl), (own_w hw 86 rfl)⟩)
  have E_ALIAS : Exa s s.heap a_ALIAS "com/example/libbuchi/libbuchi/formats/HoaLexer$Kind" := Exa.start ea_ALIAS nn6
  obtain ⟨a_MARKER, ea_MARKER⟩ := exa_v nn8
  have S_MARKER : Sta s s.heap "com/example/libbuchi/libbuchi/formats/HoaLexer$Kind" "MARKER" "Lcom/example/libbuchi/libbuchi/formats/HoaLexer$Kind;" (.ref a_MARKER) := Sta.start ea_MARKER (Or.inr ⟨(own_w hw 34 rfl), (own_w hw 88 rfl)⟩)
  have E_MARKER : Exa s s.heap a_MARKER "com/example/libbuchi/libbuchi/formats/HoaLexer$Kind" := Exa.start ea_MARKER nn8
  obtain ⟨a_IDENTIFIER, ea_IDENTIFIER⟩ := exa_v nn10
  have S_IDENTIFIER : Sta s s.heap "com/example/libbuchi/libbuchi/formats/HoaLexer$Kind" "IDENTIFIER" "Lcom/example/libbuchi/libbuchi/formats/HoaLexer$Kind;" (.ref a_IDENTIFIER) := Sta.start ea_IDENTIFIER (Or.inr ⟨(own_w hw 34 rfl), (own_w hw 90 rfl)⟩)
  have E_IDENTIFIER : Exa s s.heap a_IDENTIFIER "com/example/libbuchi/libbuchi/formats/HoaLexer$Kind" := Exa.start ea_IDENTIFIER nn10
  obtain ⟨a_INTEGER, ea_INTEGER⟩ := exa_v nn13
  have S_INTEGER : Sta s s.heap "com/example/libbuchi/libbuchi/formats/HoaLexer$Kind" "INTEGER" "Lcom/example/libbuchi/libbuchi/formats/HoaLexer$Kind;" (.ref a_INTEGER) := Sta.start ea_INTEGER (Or.inr ⟨(own_w hw 34 rfl), (own_w hw 92 rfl)⟩)
  have E_INTEGER : Exa s s.heap a_INTEGER "com/example/libbuchi/libbuchi/formats/HoaLexer$Kind" := Exa.start ea_INTEGER nn13
  have F_STRING : Fld s s.heap a_STRING "java/lang/Enum" "ordinal" "I" (.int (4 : Int32)) := Fld.start (own_eqi nn2 ea_STRING)
  have F_HEADER : Fld s s.heap a_HEADER "java/lang/Enum" "ordinal" "I" (.int (0 : Int32)) := Fld.start (own_eqi nn3 ea_HEADER)
  have F_SYMBOL : Fld s s.heap a_SYMBOL "java/lang/Enum" "ordinal" "I" (.int (5 : Int32)) := Fld.start (own_eqi nn7 ea_SYMBOL)
  have F_MARKER : Fld s s.heap a_MARKER "java/lang/Enum" "ordinal" "I" (.int (6 : Int32)) := Fld.start (own_eqi nn9 ea_MARKER)
  have F_ALIAS : Fld s s.heap a_ALIAS "java/lang/Enum" "ordinal" "I" (.int (2 : Int32)) := Fld.start (own_eqi nn11 ea_ALIAS)
  have F_IDENTIFIER : Fld s s.heap a_IDENTIFIER "java/lang/Enum" "ordinal" "I" (.int (1 : Int32)) := Fld.start (own_eqi nn12 ea_IDENTIFIER)
  have F_INTEGER : Fld s s.heap a_INTEGER "java/lang/Enum" "ordinal" "I" (.int (3 : Int32)) := Fld.start (own_eqi nn14 ea_INTEGER)
  have F_END : Fld s s.heap a_END "java/lang/Enum" "ordinal" "I" (.int (7 : Int32)) := Fld.start (own_eqi nn15 ea_END)
  have hK0 : own_K s s.heap (own_fk a_HEADER a_IDENTIFIER a_ALIAS a_INTEGER a_STRING a_SYMBOL a_MARKER a_END) := ⟨S_HEADER, S_IDENTIFIER, S_ALIAS, S_INTEGER, S_STRING, S_SYMBOL, S_MARKER, S_END⟩
  have hord0 : ∀ i : Int32, 0 ≤ i.toInt ∧ i.toInt < 8 → Fld s s.heap ((own_fk a_HEADER a_IDENTIFIER a_ALIAS a_INTEGER a_STRING a_SYMBOL a_MARKER a_END) i) "java/lang/Enum" "ordinal" "I" (.int i) := by
    intro i hi
    rcases own_eight i hi with rfl | rfl | rfl | rfl | rfl | rfl | rfl | rfl
    · exact F_HEADER
    · exact F_IDENTIFIER
    · exact F_ALIAS
    · exact F_INTEGER
    · exact F_STRING
    · exact F_SYMBOL
    · exact F_MARKER
    · exact F_END
  obtain ⟨n, o, h1, h2, h3, _, L, rfl, ⟨rfl, N⟩, hq⟩ := own_law l s _ hw tables_1 i0 i1 i2 i3 i4 i5 vc (own_fk a_HEADER a_IDENTIFIER a_ALIAS a_INTEGER a_STRING a_SYMBOL a_MARKER a_END) s.heap s.heap.size rfl CS0 hcs held (hsets _ (List.mem_of_getElem? (i := 2) rfl)) hK0 hord0 p e ha hc hk s m _ below hf ((Spec.applies_iff_loose hf).mp happ).1 ⟨rfl, rfl⟩ trivial
  refine ⟨n, _, h1, h2, h3, hpost _ _ _ _ _ _ ⟨Cond.after_iff.mpr rfl, Cond.after_iff.mpr (eq_i res_at (Term.int_eval (1)) rfl), trivial⟩ ⟨hq.1, hq.2.1, hq.2.2.1, (hq.2.2.2.sift fun y hy => Or.inr (N y hy)).mono (by decide) (by decide)⟩⟩
theorem main_1_1 : Claimed_1_1 := comes_1 fun _ _ _ _ _ _ h hF => ⟨h.1, hF⟩
theorem main_1_2 : Claimed_1_2 := comes_1 fun _ _ _ _ _ _ h hF => ⟨h.2.1, hF⟩
end Jvm.Pilot.@@N@@
namespace Jvm.Pilot.@@N@@
open Jvm Jvm.ClassFile Sem Op Lib Jvm.Free Jvm.Stand Jvm.Pilot.@@N@@.Jvm.D
/-! MADE BY PROGRAM (witnessworld.py) out of the Statement's table words and the real class files: 24 classes; the members and pool entries that the words name. The judged class is class 1, her method 3. -/
namespace start1
open Jvm.ClassFile
def u (s : String) : CpInfo := .utf8 (stringToUtf16 s)
/-- a pool by its gaps: so many unusable entries, then the entry; so many at the end -/
def gap : Nat → List CpInfo → List CpInfo
  | 0, r => r
  | n + 1, r => .unusable :: gap n r
def poolList (es : List (Nat × CpInfo)) (last : Nat) : List CpInfo := es.foldr (fun e r => gap e.1 (e.2 :: r)) (gap last [])
def pool (es : List (Nat × CpInfo)) (last : Nat) : Array CpInfo := ⟨poolList es last⟩
def fileOf (pool : Array CpInfo) (this : Nat) (attrs : Array Attribute := #[]) (ms : Array MethodInfo := #[]) (fl : Nat := 33) (sup : Nat := 0) (ifs : Array Nat := #[]) (fds : Array FieldInfo := #[]) : ClassFile where
  minorVersion := 0
  majorVersion := 65
  constantPool := pool
  accessFlags := fl
  thisClass := this
  superClass := sup
  interfaces := ifs
  fields := fds
  methods := ms
  attributes := attrs
def plain (name : String) (sup : Option ClassId) : Class where
  name := name
  kind := .ordinary
  loader := none
  accessFlags := 33
  super := sup
  interfaces := #[]
  cf := none
  fields := #[]
  methods := #[]
  instanceTypes := #[]
  staticTypes := #[]
  resolved := #[]
  callSites := []
  init := .initialized
  statics := none
  mirror := none

def pool0 : Array CpInfo := pool [(5, u "<init>"), (0, u "()V"), (1, .class_ 10), (1, u "java/lang/Object")] 113

def k0c0 : Code := { maxStack := 0, maxLocals := 1, code := object_method_1_code, exceptionTable := #[], attributes := #[] }
def k0m0 : Method := { name := "<init>", desc := "()V", sig := { parameters := [], returnType := none }, accessFlags := 1, code := some k0c0 }
/-- java/lang/Object -/
def k0 : Class := { plain "java/lang/Object" none with
  accessFlags := 33
  interfaces := #[]
  cf := some (fileOf pool0 8 #[] #[{ accessFlags := 1, nameIndex := 5, descriptorIndex := 6, attributes := #[] }] 33 0 #[] #[])
  fields := #[]
  methods := #[k0m0]
  instanceTypes := #[]
  staticTypes := #[]
  resolved := Array.replicate 124 none
  statics := none }

def pool1 : Array CpInfo := pool [(2, .class_ 4), (1, u "java/lang/Object"), (0, u "<init>"), (0, u "()V"), (0, .fieldref 8 9), (0, .class_ 10), (0, .nameAndType 11 12), (0, u "com/example/libbuchi/libbuchi/formats/HoaLexer$Kind"), (0, u "HEADER"), (0, u "Lcom/example/libbuchi/libbuchi/formats/HoaLexer$Kind;"), (0, .fieldref 8 14), (0, .nameAndType 15 12), (0, u "IDENTIFIER"), (0, .fieldref 8 17), (0, .nameAndType 18 12), (0, u "ALIAS"), (0, .fieldref 8 20), (0, .nameAndType 21 12), (0, u "INTEGER"), (0, .fieldref 8 23), (0, .nameAndType 24 12), (0, u "STRING"), (0, .fieldref 8 26), (0, .nameAndType 27 12), (0, u "SYMBOL"), (0, .fieldref 8 29), (0, .nameAndType 30 12), (0, u "MARKER"), (0, .fieldref 8 32), (0, .nameAndType 33 12), (0, u "END"), (0, .class_ 35), (0, u "java/lang/String"), (0, .methodref 34 37), (0, .nameAndType 5 38), (0, u "([C)V"), (0, .integer 2147483647), (0, .methodref 41 42), (0, .class_ 43), (0, .nameAndType 44 45), (0, u "com/example/libbuchi/libbuchi/formats/TokenIsPinLaw"), (0, u "str"), (0, u "(ICC)Ljava/lang/String;"), (0, .class_ 47), (0, u "com/example/libbuchi/libbuchi/formats/HoaLexer$Token"), (0, .methodref 41 49), (0, .nameAndType 50 51), (0, u "kind"), (0, u "(I)Lcom/example/libbuchi/libbuchi/formats/HoaLexer$Kind;"), (0, .methodref 46 53), (0, .nameAndType 5 54), (0, u "(Lcom/example/libbuchi/libbuchi/formats/HoaLexer$Kind;Ljava/lang/String;II)V"), (0, .methodref 46 56), (0, .nameAndType 57 58), (0, u "is"), (0, u "(Lcom/example/libbuchi/libbuchi/formats/HoaLexer$Kind;Ljava/lang/String;)Z"), (3, u "law"), (0, u "(IIIIII)Z")] 7

def k1m0 : Method := { name := "<init>", desc := "()V", sig := { parameters := [], returnType := none }, accessFlags := 1, code := none }
def k1c1 : Code := { maxStack := 2, maxLocals := 1, code := method_2_code, exceptionTable := #[], attributes := #[] }
def k1m1 : Method := { name := "kind", desc := "(I)Lcom/example/libbuchi/libbuchi/formats/HoaLexer$Kind;", sig := { parameters := [.int], returnType := some (.object "com/example/libbuchi/libbuchi/formats/HoaLexer$Kind") }, accessFlags := 10, code := some k1c1 }
def k1c2 : Code := { maxStack := 6, maxLocals := 3, code := method_3_code, exceptionTable := #[], attributes := #[] }
def k1m2 : Method := { name := "str", desc := "(ICC)Ljava/lang/String;", sig := { parameters := [.int, .char, .char], returnType := some (.object "java/lang/String") }, accessFlags := 10, code := some k1c2 }
def k1c3 : Code := { maxStack := 6, maxLocals := 20, code := code, exceptionTable := #[], attributes := #[] }
def k1m3 : Method := { name := "law", desc := "(IIIIII)Z", sig := { parameters := [.int, .int, .int, .int, .int, .int], returnType := some .boolean }, accessFlags := 9, code := some k1c3 }
/-- com/example/libbuchi/libbuchi/formats/TokenIsPinLaw -/
def k1 : Class := { plain "com/example/libbuchi/libbuchi/formats/TokenIsPinLaw" (some 0) with
  accessFlags := 49
  interfaces := #[]
  cf := some (fileOf pool1 41 #[] #[{ accessFlags := 1, nameIndex := 5, descriptorIndex := 6, attributes := #[] }, { accessFlags := 10, nameIndex := 50, descriptorIndex := 51, attributes := #[] }, { accessFlags := 10, nameIndex := 44, descriptorIndex := 45, attributes := #[] }, { accessFlags := 9, nameIndex := 62, descriptorIndex := 63, attributes := #[] }] 49 2 #[] #[])
  fields := #[]
  methods := #[k1m0, k1m1, k1m2, k1m3]
  instanceTypes := #[]
  staticTypes := #[]
  resolved := Array.replicate 71 none
  statics := none }

def pool2 : Array CpInfo := pool [(1, .class_ 2), (0, u "java/io/Serializable"), (0, .class_ 4), (0, u "java/lang/Object")] 2

/-- java/io/Serializable -/
def k2 : Class := { plain "java/io/Serializable" (some 0) with
  accessFlags := 1537
  interfaces := #[]
  cf := some (fileOf pool2 1 #[] #[] 1537 3 #[] #[])
  fields := #[]
  methods := #[]
  instanceTypes := #[]
  staticTypes := #[]
  resolved := Array.replicate 7 none
  statics := none }

def pool3 : Array CpInfo := pool [(1, .class_ 2), (0, u "java/lang/Comparable"), (0, .class_ 4), (0, u "java/lang/Object")] 7

/-- java/lang/Comparable -/
def k3 : Class := { plain "java/lang/Comparable" (some 0) with
  accessFlags := 1537
  interfaces := #[]
  cf := some (fileOf pool3 1 #[] #[] 1537 3 #[] #[])
  fields := #[]
  methods := #[]
  instanceTypes := #[]
  staticTypes := #[]
  resolved := Array.replicate 12 none
  statics := none }

def pool4 : Array CpInfo := pool [(2, .class_ 4), (1, u "java/lang/CharSequence"), (42, .class_ 48), (0, u "java/lang/CharSequence$1CodePointIterator"), (10, .class_ 60), (0, u "java/lang/CharSequence$1CharIterator"), (5, .class_ 67), (0, u "java/lang/Object")] 63

/-- java/lang/CharSequence -/
def k4 : Class := { plain "java/lang/CharSequence" (some 0) with
  accessFlags := 1537
  interfaces := #[]
  cf := some (fileOf pool4 2 #[.nestMembers #[47, 59]] #[] 1537 66 #[] #[])
  fields := #[]
  methods := #[]
  instanceTypes := #[]
  staticTypes := #[]
  resolved := Array.replicate 131 none
  statics := none }

def pool5 : Array CpInfo := pool [(1, .class_ 2), (0, u "java/lang/constant/Constable"), (0, .class_ 4), (0, u "java/lang/Object")] 6

/-- java/lang/constant/Constable -/
def k5 : Class := { plain "java/lang/constant/Constable" (some 0) with
  accessFlags := 1537
  interfaces := #[]
  cf := some (fileOf pool5 1 #[] #[] 1537 3 #[] #[])
  fields := #[]
  methods := #[]
  instanceTypes := #[]
  staticTypes := #[]
  resolved := Array.replicate 11 none
  statics := none }

def pool6 : Array CpInfo := pool [(1, .class_ 2), (0, u "java/lang/constant/ConstantDesc"), (0, .class_ 4), (0, u "java/lang/Object")] 32

/-- java/lang/constant/ConstantDesc -/
def k6 : Class := { plain "java/lang/constant/ConstantDesc" (some 0) with
  accessFlags := 1537
  interfaces := #[]
  cf := some (fileOf pool6 1 #[] #[] 1537 3 #[] #[])
  fields := #[]
  methods := #[]
  instanceTypes := #[]
  staticTypes := #[]
  resolved := Array.replicate 37 none
  statics := none }

def pool7 : Array CpInfo := pool [(1, .methodref 2 3), (0, .class_ 4), (0, .nameAndType 5 6), (0, u "java/lang/Object"), (0, u "<init>"), (0, u "()V"), (0, .string 8), (0, u ""), (0, .fieldref 10 11), (0, .class_ 12), (0, .nameAndType 13 14), (0, u "java/lang/String"), (0, u "value"), (0, u "[B"), (0, .fieldref 10 16), (0, .nameAndType 17 18), (0, u "coder"), (0, u "B"), (2, u "hash"), (0, u "I"), (2, u "hashIsZero"), (0, u "Z"), (0, .methodref 10 28), (0, .nameAndType 5 29), (0, u "([CIILjava/lang/Void;)V"), (8, .fieldref 10 39), (0, .nameAndType 40 26), (0, u "COMPACT_STRINGS"), (1, .class_ 44), (1, u "java/lang/StringUTF16"), (0, u "compress"), (1, .methodref 42 48), (0, .nameAndType 49 50), (0, u "coderFromArrayLen"), (0, u "([BI)B"), (56, .class_ 109), (1, u "java/lang/StringLatin1"), (67, .methodref 42 178), (0, .nameAndType 45 179), (0, u "([CII)[B"), (361, .methodref 107 542), (0, .nameAndType 543 544), (0, u "equals"), (0, u "([B[B)Z"), (28, u "(Ljava/lang/Object;)Z"), (1, .class_ 576), (0, u "java/lang/CharSequence"), (22, u "CASE_INSENSITIVE_ORDER"), (0, u "Ljava/util/Comparator;"), (409, u "([C)V"), (90, u "serialPersistentFields"), (0, u "[Ljava/io/ObjectStreamField;"), (0, .class_ 1104), (0, u "java/lang/String$CaseInsensitiveComparator"), (1, .class_ 1107), (0, u "java/io/Serializable"), (0, .class_ 1109), (0, u "java/lang/Comparable"), (0, .class_ 1111), (0, u "java/lang/constant/Constable"), (0, .class_ 1113), (0, u "java/lang/constant/ConstantDesc"), (2, u "serialVersionUID"), (0, u "J"), (3, u "REPL"), (0, u "C"), (2, u "LATIN1"), (1, u "UTF16")] 323

def k7m0 : Method := { name := "<init>", desc := "()V", sig := { parameters := [], returnType := none }, accessFlags := 1, code := none }
def k7c1 : Code := { maxStack := 5, maxLocals := 2, code := jdk_42_method_3_code, exceptionTable := #[], attributes := #[] }
def k7m1 : Method := { name := "<init>", desc := "([C)V", sig := { parameters := [(.array .char)], returnType := none }, accessFlags := 1, code := some k7c1 }
def k7c2 : Code := { maxStack := 2, maxLocals := 3, code := jdk_42_method_66_code, exceptionTable := #[], attributes := #[] }
def k7m2 : Method := { name := "equals", desc := "(Ljava/lang/Object;)Z", sig := { parameters := [(.object "java/lang/Object")], returnType := some .boolean }, accessFlags := 1, code := some k7c2 }
def k7c3 : Code := { maxStack := 4, maxLocals := 6, code := jdk_42_method_149_code, exceptionTable := #[], attributes := #[] }
def k7m3 : Method := { name := "<init>", desc := "([CIILjava/lang/Void;)V", sig := { parameters := [(.array .char), .int, .int, (.object "java/lang/Void")], returnType := none }, accessFlags := 2, code := some k7c3 }
/-- java/lang/String -/
def k7 : Class := { plain "java/lang/String" (some 0) with
  accessFlags := 49
  interfaces := #[2, 3, 4, 5, 6]
  cf := some (fileOf pool7 10 #[.nestMembers #[1103]] #[{ accessFlags := 1, nameIndex := 5, descriptorIndex := 6, attributes := #[] }, { accessFlags := 1, nameIndex := 5, descriptorIndex := 1010, attributes := #[] }, { accessFlags := 1, nameIndex := 543, descriptorIndex := 573, attributes := #[] }, { accessFlags := 2, nameIndex := 5, descriptorIndex := 29, attributes := #[] }] 49 2 #[1106, 1108, 575, 1110, 1112] #[{ accessFlags := 18, nameIndex := 13, descriptorIndex := 14, attributes := #[] }, { accessFlags := 18, nameIndex := 17, descriptorIndex := 18, attributes := #[] }, { accessFlags := 2, nameIndex := 21, descriptorIndex := 22, attributes := #[] }, { accessFlags := 2, nameIndex := 25, descriptorIndex := 26, attributes := #[] }, { accessFlags := 26, nameIndex := 1116, descriptorIndex := 1117, attributes := #[] }, { accessFlags := 24, nameIndex := 40, descriptorIndex := 26, attributes := #[] }, { accessFlags := 26, nameIndex := 1101, descriptorIndex := 1102, attributes := #[] }, { accessFlags := 26, nameIndex := 1121, descriptorIndex := 1122, attributes := #[] }, { accessFlags := 25, nameIndex := 599, descriptorIndex := 600, attributes := #[] }, { accessFlags := 24, nameIndex := 1125, descriptorIndex := 18, attributes := #[] }, { accessFlags := 24, nameIndex := 1127, descriptorIndex := 18, attributes := #[] }])
  fields := #[{ name := "value", type := (.array .byte), accessFlags := 18, slot := 0, constantValue := 0 }, { name := "coder", type := .byte, accessFlags := 18, slot := 1, constantValue := 0 }, { name := "hash", type := .int, accessFlags := 2, slot := 2, constantValue := 0 }, { name := "hashIsZero", type := .boolean, accessFlags := 2, slot := 3, constantValue := 0 }, { name := "serialVersionUID", type := .long, accessFlags := 26, slot := 0, constantValue := 0 }, { name := "COMPACT_STRINGS", type := .boolean, accessFlags := 24, slot := 1, constantValue := 0 }, { name := "serialPersistentFields", type := (.array (.object "java/io/ObjectStreamField")), accessFlags := 26, slot := 2, constantValue := 0 }, { name := "REPL", type := .char, accessFlags := 26, slot := 3, constantValue := 0 }, { name := "CASE_INSENSITIVE_ORDER", type := (.object "java/util/Comparator"), accessFlags := 25, slot := 4, constantValue := 0 }, { name := "LATIN1", type := .byte, accessFlags := 24, slot := 5, constantValue := 0 }, { name := "UTF16", type := .byte, accessFlags := 24, slot := 6, constantValue := 0 }]
  methods := #[k7m0, k7m1, k7m2, k7m3]
  instanceTypes := #[(.array .byte), .byte, .int, .boolean]
  staticTypes := #[.long, .boolean, (.array (.object "java/io/ObjectStreamField")), .char, (.object "java/util/Comparator"), .byte, .byte]
  resolved := Array.replicate 1451 none
  statics := some 0 }

def pool8 : Array CpInfo := pool [(1, .methodref 2 3), (0, .class_ 4), (0, .nameAndType 5 6), (0, u "java/lang/Object"), (0, u "<init>"), (0, u "()V"), (0, .class_ 8), (0, u "java/lang/Record")] 13

def k8c0 : Code := { maxStack := 1, maxLocals := 1, code := jdk_30_method_1_code, exceptionTable := #[], attributes := #[] }
def k8m0 : Method := { name := "<init>", desc := "()V", sig := { parameters := [], returnType := none }, accessFlags := 4, code := some k8c0 }
/-- java/lang/Record -/
def k8 : Class := { plain "java/lang/Record" (some 0) with
  accessFlags := 1057
  interfaces := #[]
  cf := some (fileOf pool8 7 #[] #[{ accessFlags := 4, nameIndex := 5, descriptorIndex := 6, attributes := #[] }] 1057 2 #[] #[])
  fields := #[]
  methods := #[k8m0]
  instanceTypes := #[]
  staticTypes := #[]
  resolved := Array.replicate 22 none
  statics := none }

def pool9 : Array CpInfo := pool [(1, .class_ 2), (0, u "com/example/libbuchi/libbuchi/formats/BooleanExpressions$Token"), (0, .class_ 4), (0, u "java/lang/Object"), (10, .class_ 16), (0, u "com/example/libbuchi/libbuchi/formats/BooleanExpressions")] 2

/-- com/example/libbuchi/libbuchi/formats/BooleanExpressions$Token -/
def k9 : Class := { plain "com/example/libbuchi/libbuchi/formats/BooleanExpressions$Token" (some 0) with
  accessFlags := 1536
  interfaces := #[]
  cf := some (fileOf pool9 1 #[.nestHost 15] #[] 1536 3 #[] #[])
  fields := #[]
  methods := #[]
  instanceTypes := #[]
  staticTypes := #[]
  resolved := Array.replicate 19 none
  statics := none }

def pool10 : Array CpInfo := pool [(1, .methodref 2 3), (0, .class_ 4), (0, .nameAndType 5 6), (0, u "java/lang/Record"), (0, u "<init>"), (0, u "()V"), (0, .fieldref 8 9), (0, .class_ 10), (0, .nameAndType 11 12), (0, u "com/example/libbuchi/libbuchi/formats/HoaLexer$Token"), (0, u "kind"), (0, u "Lcom/example/libbuchi/libbuchi/formats/HoaLexer$Kind;"), (0, .fieldref 8 14), (0, .nameAndType 15 16), (0, u "text"), (0, u "Ljava/lang/String;"), (0, .fieldref 8 18), (0, .nameAndType 19 20), (0, u "line"), (0, u "I"), (0, .fieldref 8 22), (0, .nameAndType 23 20), (0, u "column"), (5, .methodref 30 31), (0, .class_ 32), (0, .nameAndType 33 34), (0, u "java/lang/String"), (0, u "equals"), (0, u "(Ljava/lang/Object;)Z"), (37, .class_ 73), (0, u "com/example/libbuchi/libbuchi/formats/BooleanExpressions$Token"), (0, u "(Lcom/example/libbuchi/libbuchi/formats/HoaLexer$Kind;Ljava/lang/String;II)V"), (6, u "is"), (0, u "(Lcom/example/libbuchi/libbuchi/formats/HoaLexer$Kind;Ljava/lang/String;)Z"), (10, .class_ 94), (0, u "com/example/libbuchi/libbuchi/formats/HoaLexer")] 35

def k10c0 : Code := { maxStack := 2, maxLocals := 5, code := prog_70_method_1_code, exceptionTable := #[], attributes := #[] }
def k10m0 : Method := { name := "<init>", desc := "(Lcom/example/libbuchi/libbuchi/formats/HoaLexer$Kind;Ljava/lang/String;II)V", sig := { parameters := [(.object "com/example/libbuchi/libbuchi/formats/HoaLexer$Kind"), (.object "java/lang/String"), .int, .int], returnType := none }, accessFlags := 0, code := some k10c0 }
def k10c1 : Code := { maxStack := 2, maxLocals := 3, code := prog_70_method_3_code, exceptionTable := #[], attributes := #[] }
def k10m1 : Method := { name := "is", desc := "(Lcom/example/libbuchi/libbuchi/formats/HoaLexer$Kind;Ljava/lang/String;)Z", sig := { parameters := [(.object "com/example/libbuchi/libbuchi/formats/HoaLexer$Kind"), (.object "java/lang/String")], returnType := some .boolean }, accessFlags := 0, code := some k10c1 }
/-- com/example/libbuchi/libbuchi/formats/HoaLexer$Token -/
def k10 : Class := { plain "com/example/libbuchi/libbuchi/formats/HoaLexer$Token" (some 8) with
  accessFlags := 48
  interfaces := #[9]
  cf := some (fileOf pool10 8 #[.nestHost 93] #[{ accessFlags := 0, nameIndex := 5, descriptorIndex := 74, attributes := #[] }, { accessFlags := 0, nameIndex := 81, descriptorIndex := 82, attributes := #[] }] 48 2 #[72] #[{ accessFlags := 18, nameIndex := 11, descriptorIndex := 12, attributes := #[] }, { accessFlags := 18, nameIndex := 15, descriptorIndex := 16, attributes := #[] }, { accessFlags := 18, nameIndex := 19, descriptorIndex := 20, attributes := #[] }, { accessFlags := 18, nameIndex := 23, descriptorIndex := 20, attributes := #[] }])
  fields := #[{ name := "kind", type := (.object "com/example/libbuchi/libbuchi/formats/HoaLexer$Kind"), accessFlags := 18, slot := 0, constantValue := 0 }, { name := "text", type := (.object "java/lang/String"), accessFlags := 18, slot := 1, constantValue := 0 }, { name := "line", type := .int, accessFlags := 18, slot := 2, constantValue := 0 }, { name := "column", type := .int, accessFlags := 18, slot := 3, constantValue := 0 }]
  methods := #[k10m0, k10m1]
  instanceTypes := #[(.object "com/example/libbuchi/libbuchi/formats/HoaLexer$Kind"), (.object "java/lang/String"), .int, .int]
  staticTypes := #[]
  resolved := Array.replicate 130 none
  statics := none }

def pool11 : Array CpInfo := pool [(2, .class_ 4), (1, u "java/lang/Enum"), (0, u "name"), (0, u "Ljava/lang/String;"), (2, u "ordinal"), (0, u "I"), (1, .class_ 14), (1, u "java/lang/Object"), (4, u "hash"), (86, .class_ 108), (1, u "java/lang/Enum$EnumDesc"), (2, .class_ 112), (0, u "java/lang/constant/Constable"), (0, .class_ 114), (0, u "java/lang/Comparable"), (0, .class_ 116), (0, u "java/io/Serializable")] 87

/-- java/lang/Enum -/
def k11 : Class := { plain "java/lang/Enum" (some 0) with
  accessFlags := 1057
  interfaces := #[5, 3, 2]
  cf := some (fileOf pool11 2 #[.nestMembers #[106]] #[] 1057 12 #[111, 113, 115] #[{ accessFlags := 18, nameIndex := 5, descriptorIndex := 6, attributes := #[] }, { accessFlags := 18, nameIndex := 9, descriptorIndex := 10, attributes := #[] }, { accessFlags := 2, nameIndex := 19, descriptorIndex := 10, attributes := #[] }])
  fields := #[{ name := "name", type := (.object "java/lang/String"), accessFlags := 18, slot := 0, constantValue := 0 }, { name := "ordinal", type := .int, accessFlags := 18, slot := 1, constantValue := 0 }, { name := "hash", type := .int, accessFlags := 2, slot := 2, constantValue := 0 }]
  methods := #[]
  instanceTypes := #[(.object "java/lang/String"), .int, .int]
  staticTypes := #[]
  resolved := Array.replicate 204 none
  statics := none }

def pool12 : Array CpInfo := pool [(1, .class_ 2), (0, u "com/example/libbuchi/libbuchi/formats/HoaLexer$Kind"), (2, u "HEADER"), (0, u "Lcom/example/libbuchi/libbuchi/formats/HoaLexer$Kind;"), (2, u "IDENTIFIER"), (2, u "ALIAS"), (2, u "INTEGER"), (2, u "STRING"), (2, u "SYMBOL"), (2, u "MARKER"), (2, u "END"), (2, u "$VALUES"), (0, u "[Lcom/example/libbuchi/libbuchi/formats/HoaLexer$Kind;"), (6, .class_ 40), (1, u "java/lang/Enum"), (31, .class_ 73), (0, u "com/example/libbuchi/libbuchi/formats/HoaLexer")] 2

/-- com/example/libbuchi/libbuchi/formats/HoaLexer$Kind -/
def k12 : Class := { plain "com/example/libbuchi/libbuchi/formats/HoaLexer$Kind" (some 11) with
  accessFlags := 16432
  interfaces := #[]
  cf := some (fileOf pool12 1 #[.nestHost 72] #[] 16432 38 #[] #[{ accessFlags := 16409, nameIndex := 5, descriptorIndex := 6, attributes := #[] }, { accessFlags := 16409, nameIndex := 9, descriptorIndex := 6, attributes := #[] }, { accessFlags := 16409, nameIndex := 12, descriptorIndex := 6, attributes := #[] }, { accessFlags := 16409, nameIndex := 15, descriptorIndex := 6, attributes := #[] }, { accessFlags := 16409, nameIndex := 18, descriptorIndex := 6, attributes := #[] }, { accessFlags := 16409, nameIndex := 21, descriptorIndex := 6, attributes := #[] }, { accessFlags := 16409, nameIndex := 24, descriptorIndex := 6, attributes := #[] }, { accessFlags := 16409, nameIndex := 27, descriptorIndex := 6, attributes := #[] }, { accessFlags := 4122, nameIndex := 30, descriptorIndex := 31, attributes := #[] }])
  fields := #[{ name := "HEADER", type := (.object "com/example/libbuchi/libbuchi/formats/HoaLexer$Kind"), accessFlags := 16409, slot := 0, constantValue := 0 }, { name := "IDENTIFIER", type := (.object "com/example/libbuchi/libbuchi/formats/HoaLexer$Kind"), accessFlags := 16409, slot := 1, constantValue := 0 }, { name := "ALIAS", type := (.object "com/example/libbuchi/libbuchi/formats/HoaLexer$Kind"), accessFlags := 16409, slot := 2, constantValue := 0 }, { name := "INTEGER", type := (.object "com/example/libbuchi/libbuchi/formats/HoaLexer$Kind"), accessFlags := 16409, slot := 3, constantValue := 0 }, { name := "STRING", type := (.object "com/example/libbuchi/libbuchi/formats/HoaLexer$Kind"), accessFlags := 16409, slot := 4, constantValue := 0 }, { name := "SYMBOL", type := (.object "com/example/libbuchi/libbuchi/formats/HoaLexer$Kind"), accessFlags := 16409, slot := 5, constantValue := 0 }, { name := "MARKER", type := (.object "com/example/libbuchi/libbuchi/formats/HoaLexer$Kind"), accessFlags := 16409, slot := 6, constantValue := 0 }, { name := "END", type := (.object "com/example/libbuchi/libbuchi/formats/HoaLexer$Kind"), accessFlags := 16409, slot := 7, constantValue := 0 }, { name := "$VALUES", type := (.array (.object "com/example/libbuchi/libbuchi/formats/HoaLexer$Kind")), accessFlags := 4122, slot := 8, constantValue := 0 }]
  methods := #[]
  instanceTypes := #[(.object "java/lang/String"), .int, .int]
  staticTypes := #[(.object "com/example/libbuchi/libbuchi/formats/HoaLexer$Kind"), (.object "com/example/libbuchi/libbuchi/formats/HoaLexer$Kind"), (.object "com/example/libbuchi/libbuchi/formats/HoaLexer$Kind"), (.object "com/example/libbuchi/libbuchi/formats/HoaLexer$Kind"), (.object "com/example/libbuchi/libbuchi/formats/HoaLexer$Kind"), (.object "com/example/libbuchi/libbuchi/formats/HoaLexer$Kind"), (.object "com/example/libbuchi/libbuchi/formats/HoaLexer$Kind"), (.object "com/example/libbuchi/libbuchi/formats/HoaLexer$Kind"), (.array (.object "com/example/libbuchi/libbuchi/formats/HoaLexer$Kind"))]
  resolved := Array.replicate 76 none
  statics := some 1 }

def pool13 : Array CpInfo := pool [(4, .class_ 6), (1, u "java/lang/Object"), (0, u "<init>"), (0, u "()V"), (5, .class_ 16), (1, u "java/lang/StringLatin1"), (104, u "$assertionsDisabled"), (0, u "Z"), (98, .class_ 223), (1, u "java/lang/StringLatin1$LinesSpliterator"), (57, u "equals"), (0, u "([B[B)Z"), (107, .class_ 391), (0, u "java/lang/StringLatin1$CharsSpliterator")] 3

def k13m0 : Method := { name := "<init>", desc := "()V", sig := { parameters := [], returnType := none }, accessFlags := 0, code := none }
def k13c1 : Code := { maxStack := 3, maxLocals := 3, code := jdk_43_method_13_code, exceptionTable := #[], attributes := #[] }
def k13m1 : Method := { name := "equals", desc := "([B[B)Z", sig := { parameters := [(.array .byte), (.array .byte)], returnType := some .boolean }, accessFlags := 9, code := some k13c1 }
/-- java/lang/StringLatin1 -/
def k13 : Class := { plain "java/lang/StringLatin1" (some 0) with
  accessFlags := 48
  interfaces := #[]
  cf := some (fileOf pool13 14 #[.nestMembers #[390, 221]] #[{ accessFlags := 0, nameIndex := 7, descriptorIndex := 8, attributes := #[] }, { accessFlags := 9, nameIndex := 281, descriptorIndex := 282, attributes := #[] }] 48 4 #[] #[{ accessFlags := 4120, nameIndex := 121, descriptorIndex := 122, attributes := #[] }])
  fields := #[{ name := "$assertionsDisabled", type := .boolean, accessFlags := 4120, slot := 0, constantValue := 0 }]
  methods := #[k13m0, k13m1]
  instanceTypes := #[]
  staticTypes := #[.boolean]
  resolved := Array.replicate 395 none
  statics := none }

def pool14 : Array CpInfo := pool [(6, .class_ 8), (1, u "java/lang/Object"), (0, u "<init>"), (0, u "()V"), (1, .class_ 14), (1, u "java/lang/StringUTF16"), (31, u "$assertionsDisabled"), (0, u "Z"), (13, u "HI_BYTE_SHIFT"), (0, u "I"), (2, u "LO_BYTE_SHIFT"), (49, .methodref 12 116), (0, .nameAndType 117 118), (0, u "compress"), (0, u "([CI[BII)I"), (3, u "([CII)[B"), (138, u "coderFromArrayLen"), (0, u "([BI)B"), (106, .class_ 371), (1, u "java/lang/StringUTF16$LinesSpliterator"), (58, u "MAX_LENGTH"), (196, .class_ 628), (0, u "java/lang/StringUTF16$CodePointsSpliterator"), (0, .class_ 630), (0, u "java/lang/StringUTF16$CharsSpliterator")] 4

def k14m0 : Method := { name := "<init>", desc := "()V", sig := { parameters := [], returnType := none }, accessFlags := 0, code := none }
def k14c1 : Code := { maxStack := 2, maxLocals := 2, code := jdk_52_method_15_code, exceptionTable := #[], attributes := #[] }
def k14m1 : Method := { name := "coderFromArrayLen", desc := "([BI)B", sig := { parameters := [(.array .byte), .int], returnType := some .byte }, accessFlags := 8, code := some k14c1 }
def k14c2 : Code := { maxStack := 5, maxLocals := 6, code := jdk_52_method_16_code, exceptionTable := #[], attributes := #[] }
def k14m2 : Method := { name := "compress", desc := "([CII)[B", sig := { parameters := [(.array .char), .int, .int], returnType := some (.array .byte) }, accessFlags := 9, code := some k14c2 }
def k14c3 : Code := { maxStack := 3, maxLocals := 7, code := jdk_52_method_21_code, exceptionTable := #[], attributes := #[] }
def k14m3 : Method := { name := "compress", desc := "([CI[BII)I", sig := { parameters := [(.array .char), .int, (.array .byte), .int, .int], returnType := some .int }, accessFlags := 9, code := some k14c3 }
/-- java/lang/StringUTF16 -/
def k14 : Class := { plain "java/lang/StringUTF16" (some 0) with
  accessFlags := 48
  interfaces := #[]
  cf := some (fileOf pool14 12 #[.nestMembers #[627, 629, 369]] #[{ accessFlags := 0, nameIndex := 9, descriptorIndex := 10, attributes := #[] }, { accessFlags := 8, nameIndex := 261, descriptorIndex := 262, attributes := #[] }, { accessFlags := 9, nameIndex := 117, descriptorIndex := 122, attributes := #[] }, { accessFlags := 9, nameIndex := 117, descriptorIndex := 118, attributes := #[] }] 48 6 #[] #[{ accessFlags := 26, nameIndex := 61, descriptorIndex := 62, attributes := #[] }, { accessFlags := 26, nameIndex := 65, descriptorIndex := 62, attributes := #[] }, { accessFlags := 24, nameIndex := 430, descriptorIndex := 62, attributes := #[] }, { accessFlags := 4120, nameIndex := 46, descriptorIndex := 47, attributes := #[] }])
  fields := #[{ name := "HI_BYTE_SHIFT", type := .int, accessFlags := 26, slot := 0, constantValue := 0 }, { name := "LO_BYTE_SHIFT", type := .int, accessFlags := 26, slot := 1, constantValue := 0 }, { name := "MAX_LENGTH", type := .int, accessFlags := 24, slot := 2, constantValue := 0 }, { name := "$assertionsDisabled", type := .boolean, accessFlags := 4120, slot := 3, constantValue := 0 }]
  methods := #[k14m0, k14m1, k14m2, k14m3]
  instanceTypes := #[]
  staticTypes := #[.int, .int, .int, .boolean]
  resolved := Array.replicate 635 none
  statics := none }

def pool15 : Array CpInfo := pool [(2, .class_ 4), (1, u "java/lang/Object"), (0, u "<init>"), (0, u "()V"), (17, .class_ 26), (1, u "jdk/internal/util/Preconditions"), (28, .class_ 56), (0, u "jdk/internal/util/Preconditions$4"), (57, .class_ 115), (0, u "jdk/internal/util/Preconditions$1"), (7, u "SIOOBE_FORMATTER"), (0, u "Ljava/util/function/BiFunction;"), (0, .class_ 126), (0, u "jdk/internal/util/Preconditions$2"), (3, u "AIOOBE_FORMATTER"), (0, .class_ 132), (0, u "jdk/internal/util/Preconditions$3"), (3, u "IOOBE_FORMATTER")] 57

def k15m0 : Method := { name := "<init>", desc := "()V", sig := { parameters := [], returnType := none }, accessFlags := 1, code := none }
/-- jdk/internal/util/Preconditions -/
def k15 : Class := { plain "jdk/internal/util/Preconditions" (some 0) with
  accessFlags := 33
  interfaces := #[]
  cf := some (fileOf pool15 24 #[.nestMembers #[55, 131, 125, 114]] #[{ accessFlags := 1, nameIndex := 5, descriptorIndex := 6, attributes := #[] }] 33 2 #[] #[{ accessFlags := 25, nameIndex := 123, descriptorIndex := 124, attributes := #[] }, { accessFlags := 25, nameIndex := 130, descriptorIndex := 124, attributes := #[] }, { accessFlags := 25, nameIndex := 136, descriptorIndex := 124, attributes := #[] }])
  fields := #[{ name := "SIOOBE_FORMATTER", type := (.object "java/util/function/BiFunction"), accessFlags := 25, slot := 0, constantValue := 0 }, { name := "AIOOBE_FORMATTER", type := (.object "java/util/function/BiFunction"), accessFlags := 25, slot := 1, constantValue := 0 }, { name := "IOOBE_FORMATTER", type := (.object "java/util/function/BiFunction"), accessFlags := 25, slot := 2, constantValue := 0 }]
  methods := #[k15m0]
  instanceTypes := #[]
  staticTypes := #[(.object "java/util/function/BiFunction"), (.object "java/util/function/BiFunction"), (.object "java/util/function/BiFunction")]
  resolved := Array.replicate 194 none
  statics := some 2 }

def pool16 : Array CpInfo := pool [(9, u "<init>"), (6, .class_ 18), (1, u "java/lang/Object"), (0, u "()V"), (1, .class_ 23), (1, u "jdk/internal/util/ArraysSupport"), (0, u "LOG2_ARRAY_LONG_INDEX_SCALE"), (0, u "I"), (2, u "U"), (0, u "Ljdk/internal/misc/Unsafe;"), (8, u "BIG_ENDIAN"), (0, u "Z"), (8, u "LOG2_BYTE_BIT_SIZE"), (4, u "LOG2_ARRAY_INT_INDEX_SCALE"), (54, u "JLA"), (0, u "Ljdk/internal/access/JavaLangAccess;"), (11, u "LOG2_ARRAY_BOOLEAN_INDEX_SCALE"), (9, u "LOG2_ARRAY_BYTE_INDEX_SCALE"), (5, u "LOG2_ARRAY_CHAR_INDEX_SCALE"), (5, u "LOG2_ARRAY_SHORT_INDEX_SCALE"), (18, u "LOG2_ARRAY_FLOAT_INDEX_SCALE"), (24, u "LOG2_ARRAY_DOUBLE_INDEX_SCALE"), (89, u "T_BOOLEAN"), (2, u "T_CHAR"), (1, u "T_FLOAT"), (1, u "T_DOUBLE"), (1, u "T_BYTE"), (1, u "T_SHORT"), (1, u "T_INT"), (1, u "T_LONG"), (1, u "SOFT_MAX_ARRAY_LENGTH")] 83

def k16m0 : Method := { name := "<init>", desc := "()V", sig := { parameters := [], returnType := none }, accessFlags := 2, code := none }
/-- jdk/internal/util/ArraysSupport -/
def k16 : Class := { plain "jdk/internal/util/ArraysSupport" (some 0) with
  accessFlags := 33
  interfaces := #[]
  cf := some (fileOf pool16 21 #[] #[{ accessFlags := 2, nameIndex := 9, descriptorIndex := 19, attributes := #[] }] 33 16 #[] #[{ accessFlags := 24, nameIndex := 28, descriptorIndex := 29, attributes := #[] }, { accessFlags := 26, nameIndex := 38, descriptorIndex := 39, attributes := #[] }, { accessFlags := 25, nameIndex := 121, descriptorIndex := 25, attributes := #[] }, { accessFlags := 25, nameIndex := 131, descriptorIndex := 25, attributes := #[] }, { accessFlags := 25, nameIndex := 137, descriptorIndex := 25, attributes := #[] }, { accessFlags := 25, nameIndex := 143, descriptorIndex := 25, attributes := #[] }, { accessFlags := 25, nameIndex := 53, descriptorIndex := 25, attributes := #[] }, { accessFlags := 25, nameIndex := 24, descriptorIndex := 25, attributes := #[] }, { accessFlags := 25, nameIndex := 162, descriptorIndex := 25, attributes := #[] }, { accessFlags := 25, nameIndex := 187, descriptorIndex := 25, attributes := #[] }, { accessFlags := 26, nameIndex := 48, descriptorIndex := 25, attributes := #[] }, { accessFlags := 25, nameIndex := 277, descriptorIndex := 25, attributes := #[] }, { accessFlags := 25, nameIndex := 280, descriptorIndex := 25, attributes := #[] }, { accessFlags := 25, nameIndex := 282, descriptorIndex := 25, attributes := #[] }, { accessFlags := 25, nameIndex := 284, descriptorIndex := 25, attributes := #[] }, { accessFlags := 25, nameIndex := 286, descriptorIndex := 25, attributes := #[] }, { accessFlags := 25, nameIndex := 288, descriptorIndex := 25, attributes := #[] }, { accessFlags := 25, nameIndex := 290, descriptorIndex := 25, attributes := #[] }, { accessFlags := 25, nameIndex := 292, descriptorIndex := 25, attributes := #[] }, { accessFlags := 26, nameIndex := 108, descriptorIndex := 109, attributes := #[] }, { accessFlags := 25, nameIndex := 294, descriptorIndex := 25, attributes := #[] }])
  fields := #[{ name := "U", type := (.object "jdk/internal/misc/Unsafe"), accessFlags := 24, slot := 0, constantValue := 0 }, { name := "BIG_ENDIAN", type := .boolean, accessFlags := 26, slot := 1, constantValue := 0 }, { name := "LOG2_ARRAY_BOOLEAN_INDEX_SCALE", type := .int, accessFlags := 25, slot := 2, constantValue := 0 }, { name := "LOG2_ARRAY_BYTE_INDEX_SCALE", type := .int, accessFlags := 25, slot := 3, constantValue := 0 }, { name := "LOG2_ARRAY_CHAR_INDEX_SCALE", type := .int, accessFlags := 25, slot := 4, constantValue := 0 }, { name := "LOG2_ARRAY_SHORT_INDEX_SCALE", type := .int, accessFlags := 25, slot := 5, constantValue := 0 }, { name := "LOG2_ARRAY_INT_INDEX_SCALE", type := .int, accessFlags := 25, slot := 6, constantValue := 0 }, { name := "LOG2_ARRAY_LONG_INDEX_SCALE", type := .int, accessFlags := 25, slot := 7, constantValue := 0 }, { name := "LOG2_ARRAY_FLOAT_INDEX_SCALE", type := .int, accessFlags := 25, slot := 8, constantValue := 0 }, { name := "LOG2_ARRAY_DOUBLE_INDEX_SCALE", type := .int, accessFlags := 25, slot := 9, constantValue := 0 }, { name := "LOG2_BYTE_BIT_SIZE", type := .int, accessFlags := 26, slot := 10, constantValue := 0 }, { name := "T_BOOLEAN", type := .int, accessFlags := 25, slot := 11, constantValue := 0 }, { name := "T_CHAR", type := .int, accessFlags := 25, slot := 12, constantValue := 0 }, { name := "T_FLOAT", type := .int, accessFlags := 25, slot := 13, constantValue := 0 }, { name := "T_DOUBLE", type := .int, accessFlags := 25, slot := 14, constantValue := 0 }, { name := "T_BYTE", type := .int, accessFlags := 25, slot := 15, constantValue := 0 }, { name := "T_SHORT", type := .int, accessFlags := 25, slot := 16, constantValue := 0 }, { name := "T_INT", type := .int, accessFlags := 25, slot := 17, constantValue := 0 }, { name := "T_LONG", type := .int, accessFlags := 25, slot := 18, constantValue := 0 }, { name := "JLA", type := (.object "jdk/internal/access/JavaLangAccess"), accessFlags := 26, slot := 19, constantValue := 0 }, { name := "SOFT_MAX_ARRAY_LENGTH", type := .int, accessFlags := 25, slot := 20, constantValue := 0 }]
  methods := #[k16m0]
  instanceTypes := #[]
  staticTypes := #[(.object "jdk/internal/misc/Unsafe"), .boolean, .int, .int, .int, .int, .int, .int, .int, .int, .int, .int, .int, .int, .int, .int, .int, .int, .int, (.object "jdk/internal/access/JavaLangAccess"), .int]
  resolved := Array.replicate 378 none
  statics := none }

def pool17 : Array CpInfo := pool [(1, u "java/lang/Cloneable"), (0, .class_ 1), (0, u "java/lang/Object"), (0, .class_ 3)] 3

/-- java/lang/Cloneable -/
def k17 : Class := { plain "java/lang/Cloneable" (some 0) with
  accessFlags := 1537
  interfaces := #[]
  cf := some (fileOf pool17 2 #[] #[] 1537 4 #[] #[])
  fields := #[]
  methods := #[]
  instanceTypes := #[]
  staticTypes := #[]
  resolved := Array.replicate 8 none
  statics := none }

/-- the primitive byte -/
def k18 : Class := { plain "byte" none with kind := .primitive 'B', accessFlags := 0x411 }
/-- [B -/
def k19 : Class := { plain "[B" (some 0) with kind := .array 18 .byte, interfaces := #[17, 2], accessFlags := 1041 }

/-- the primitive char -/
def k20 : Class := { plain "char" none with kind := .primitive 'C', accessFlags := 0x411 }
/-- [C -/
def k21 : Class := { plain "[C" (some 0) with kind := .array 20 .char, interfaces := #[17, 2], accessFlags := 1041 }

/-- the primitive int -/
def k22 : Class := { plain "int" none with kind := .primitive 'I', accessFlags := 0x411 }
/-- [I -/
def k23 : Class := { plain "[I" (some 0) with kind := .array 22 .int, interfaces := #[17, 2], accessFlags := 1041 }

def heap : Heap := #[{ cls := 7, slots := #[.long 0, .int 1, .null, .int 0, .null, .int 0, .int 0], vm := .statics 7 },
  { cls := 12, slots := #[.ref 3, .ref 4, .ref 5, .ref 6, .ref 7, .ref 8, .ref 9, .ref 10, .null], vm := .statics 12 },
  { cls := 15, slots := #[.null, .null, .null], vm := .statics 15 },
  { cls := 12, slots := #[.null, .int 0, .int 0], vm := .none },
  { cls := 12, slots := #[.null, .int 1, .int 0], vm := .none },
  { cls := 12, slots := #[.null, .int 2, .int 0], vm := .none },
  { cls := 12, slots := #[.null, .int 3, .int 0], vm := .none },
  { cls := 12, slots := #[.null, .int 4, .int 0], vm := .none },
  { cls := 12, slots := #[.null, .int 5, .int 0], vm := .none },
  { cls := 12, slots := #[.null, .int 6, .int 0], vm := .none },
  { cls := 12, slots := #[.null, .int 7, .int 0], vm := .none }]
def classes : Array Class := #[k0, k1, k2, k3, k4, k5, k6, k7, k8, k9, k10, k11, k12, k13, k14, k15, k16, k17, k18, k19, k20, k21, k22, k23]
def interned : List (Array UInt16 × Addr) := []
def slotsUsed : Nat := 43
def theMethod : MethodId := ⟨1, 3⟩
def args0 : Array Value := #[.int 5, .int 7, .int 9, .int 11, .int 1, .int 2]
def aboutOver (below : List Frame) : State where
  vm := { classes := classes, interned := interned.toArray }
  heap := heap
  slotsUsed := slotsUsed
  threads := #[{ frames := .invoking theMethod args0 :: below }]
def below0 : List Frame := [.native { method := ⟨0, 0⟩, args := #[] }]
def about1 : State := aboutOver below0
def p0 : Program := .bare "" "" ""
def e0 : Env := launch0.env 0 0 0
theorem w_frames : about1.frames = Frame.invoking theMethod args0 :: below0 := rfl
set_option maxRecDepth 65536 in
theorem w_args : argsFit about1.vm theMethod args0 = true := by decide +kernel
set_option maxRecDepth 65536 in
theorem w_heap : heapFits about1 = true := by decide +kernel
set_option maxRecDepth 65536 in
theorem w_runnable : about1.curStatus? = some .runnable := by decide +kernel
set_option maxRecDepth 65536 in
theorem w_alone : about1.alone = true := by decide +kernel
set_option maxRecDepth 65536 in
theorem w_named : about1.methodNamed? x = some theMethod := by decide +kernel
set_option maxRecDepth 65536 in
theorem w_hears : about1.hears theMethod below0 = true := by decide +kernel
set_option maxRecDepth 65536 in
theorem w_ripe : about1.ripe theMethod args0 below0 = true := by decide +kernel
theorem w_running : about1.status = .running := rfl
set_option maxRecDepth 65536 in
theorem w_room : about1.hasRoom e0.platform room_1 = true :=
  launch0.hasRoom_least _ room_1 (by decide +kernel) (by decide +kernel) (by decide +kernel) (by decide +kernel) (by decide +kernel) (by decide +kernel)
theorem allAtoms_all (ts : List Jvm.Cond) (a : Array Jvm.Value) (st : Jvm.State) : (allAtoms ts).before a st = ts.all (fun c => c.before a st) := by
  induction ts with
  | nil => rfl
  | cons c t ih =>
    show (Jvm.Cond.and c (allAtoms t)).before a st = _
    rw [Jvm.Cond.before_and, ih, List.all_cons]
def words1 : List Jvm.Cond := Jvm.Cond.code x code maxLocals ret :: tables_1
/-- a 'code' word, met by the world's own term for the bytes: nothing is compared byte by byte -/
theorem code_word {y : MethodName} {bytes : ByteArray} {mx : Nat} {rt : Option FieldType} {a : Array Value} {s : State} {m : MethodId} {meth : Method} {c : Code} (h1 : s.methodNamed? y = some m) (h2 : s.vm.method? m = some meth) (h3 : meth.code = some c) (h4 : c.code = bytes)
    (h5 : (c.maxLocals == mx && c.exceptionTable.isEmpty && decide (c.maxStack ≤ mostOperands) && decide (meth.sig.returnType = rt) && !meth.locks && decide (parseMethodDescriptor y.desc = some meth.sig)) = true) : (Jvm.Cond.code y bytes mx rt).before a s = true := by
  simp only [Bool.and_eq_true, beq_iff_eq, Bool.not_eq_true', decide_eq_true_eq] at h5
  obtain ⟨⟨⟨⟨⟨g1, g2⟩, g3⟩, g4⟩, g5⟩, g6⟩ := h5
  simp [Cond.before, Cond.holds, Cond.value, h1, h2, h3, h4, g1, g2, g3, g4, g5, g6]
def isCode : Jvm.Cond → Bool
  | .code _ _ _ _ => true
  | _ => false
theorem all_split {L : List Jvm.Cond} {P : Jvm.Cond → Bool} (h1 : L.all (fun c => isCode c || P c) = true) (h2 : ∀ c ∈ L.filter isCode, P c = true) : L.all P = true := by
  refine List.all_eq_true.mpr fun c hc => ?_
  have h := List.all_eq_true.mp h1 c hc
  rcases Bool.eq_false_or_eq_true (isCode c) with hi | hi
  · exact h2 c (List.mem_filter.mpr ⟨hc, hi⟩)
  · simpa [hi] using h
set_option maxRecDepth 65536 in
theorem w_c0 : (Jvm.Cond.code x code maxLocals ret).before args0 about1 = true := code_word (m := ⟨1, 3⟩) (meth := k1m3) (c := k1c3) (by decide +kernel) rfl rfl rfl (by decide +kernel)
set_option maxRecDepth 65536 in
theorem w_c1 : (Jvm.Cond.code ({ cls := "com/example/libbuchi/libbuchi/formats/TokenIsPinLaw", name := "str", desc := "(ICC)Ljava/lang/String;" } : Jvm.MethodName) method_3_code (3 : Nat) (Option.some (Jvm.ClassFile.FieldType.object "java/lang/String"))).before args0 about1 = true := code_word (m := ⟨1, 2⟩) (meth := k1m2) (c := k1c2) (by decide +kernel) rfl rfl rfl (by decide +kernel)
set_option maxRecDepth 65536 in
theorem w_c2 : (Jvm.Cond.code ({ cls := "java/lang/String", name := "<init>", desc := "([C)V" } : Jvm.MethodName) jdk_42_method_3_code (2 : Nat) (Option.none : Option Jvm.ClassFile.FieldType)).before args0 about1 = true := code_word (m := ⟨7, 1⟩) (meth := k7m1) (c := k7c1) (by decide +kernel) rfl rfl rfl (by decide +kernel)
set_option maxRecDepth 65536 in
theorem w_c3 : (Jvm.Cond.code ({ cls := "java/lang/String", name := "<init>", desc := "([CIILjava/lang/Void;)V" } : Jvm.MethodName) jdk_42_method_149_code (6 : Nat) (Option.none : Option Jvm.ClassFile.FieldType)).before args0 about1 = true := code_word (m := ⟨7, 3⟩) (meth := k7m3) (c := k7c3) (by decide +kernel) rfl rfl rfl (by decide +kernel)
set_option maxRecDepth 65536 in
theorem w_c4 : (Jvm.Cond.code ({ cls := "java/lang/Object", name := "<init>", desc := "()V" } : Jvm.MethodName) object_method_1_code (1 : Nat) (Option.none : Option Jvm.ClassFile.FieldType)).before args0 about1 = true := code_word (m := ⟨0, 0⟩) (meth := k0m0) (c := k0c0) (by decide +kernel) rfl rfl rfl (by decide +kernel)
set_option maxRecDepth 65536 in
theorem w_c5 : (Jvm.Cond.code ({ cls := "com/example/libbuchi/libbuchi/formats/TokenIsPinLaw", name := "kind", desc := "(I)Lcom/example/libbuchi/libbuchi/formats/HoaLexer$Kind;" } : Jvm.MethodName) method_2_code (1 : Nat) (Option.some (Jvm.ClassFile.FieldType.object "com/example/libbuchi/libbuchi/formats/HoaLexer$Kind"))).before args0 about1 = true := code_word (m := ⟨1, 1⟩) (meth := k1m1) (c := k1c1) (by decide +kernel) rfl rfl rfl (by decide +kernel)
set_option maxRecDepth 65536 in
theorem w_c6 : (Jvm.Cond.code ({ cls := "com/example/libbuchi/libbuchi/formats/HoaLexer$Token", name := "<init>", desc := "(Lcom/example/libbuchi/libbuchi/formats/HoaLexer$Kind;Ljava/lang/String;II)V" } : Jvm.MethodName) prog_70_method_1_code (5 : Nat) (Option.none : Option Jvm.ClassFile.FieldType)).before args0 about1 = true := code_word (m := ⟨10, 0⟩) (meth := k10m0) (c := k10c0) (by decide +kernel) rfl rfl rfl (by decide +kernel)
set_option maxRecDepth 65536 in
theorem w_c7 : (Jvm.Cond.code ({ cls := "java/lang/Record", name := "<init>", desc := "()V" } : Jvm.MethodName) jdk_30_method_1_code (1 : Nat) (Option.none : Option Jvm.ClassFile.FieldType)).before args0 about1 = true := code_word (m := ⟨8, 0⟩) (meth := k8m0) (c := k8c0) (by decide +kernel) rfl rfl rfl (by decide +kernel)
set_option maxRecDepth 65536 in
theorem w_c8 : (Jvm.Cond.code ({ cls := "com/example/libbuchi/libbuchi/formats/HoaLexer$Token", name := "is", desc := "(Lcom/example/libbuchi/libbuchi/formats/HoaLexer$Kind;Ljava/lang/String;)Z" } : Jvm.MethodName) prog_70_method_3_code (3 : Nat) (Option.some Jvm.ClassFile.FieldType.boolean)).before args0 about1 = true := code_word (m := ⟨10, 1⟩) (meth := k10m1) (c := k10c1) (by decide +kernel) rfl rfl rfl (by decide +kernel)
set_option maxRecDepth 65536 in
theorem w_c9 : (Jvm.Cond.code ({ cls := "java/lang/String", name := "equals", desc := "(Ljava/lang/Object;)Z" } : Jvm.MethodName) jdk_42_method_66_code (3 : Nat) (Option.some Jvm.ClassFile.FieldType.boolean)).before args0 about1 = true := code_word (m := ⟨7, 2⟩) (meth := k7m2) (c := k7c2) (by decide +kernel) rfl rfl rfl (by decide +kernel)
set_option maxRecDepth 65536 in
theorem w_c10 : (Jvm.Cond.code ({ cls := "java/lang/StringLatin1", name := "equals", desc := "([B[B)Z" } : Jvm.MethodName) jdk_43_method_13_code (3 : Nat) (Option.some Jvm.ClassFile.FieldType.boolean)).before args0 about1 = true := code_word (m := ⟨13, 1⟩) (meth := k13m1) (c := k13c1) (by decide +kernel) rfl rfl rfl (by decide +kernel)
set_option maxRecDepth 65536 in
theorem w_c11 : (Jvm.Cond.code ({ cls := "java/lang/StringUTF16", name := "compress", desc := "([CII)[B" } : Jvm.MethodName) jdk_52_method_16_code (6 : Nat) (Option.some (Jvm.ClassFile.FieldType.array Jvm.ClassFile.FieldType.byte))).before args0 about1 = true := code_word (m := ⟨14, 2⟩) (meth := k14m2) (c := k14c2) (by decide +kernel) rfl rfl rfl (by decide +kernel)
set_option maxRecDepth 65536 in
theorem w_c12 : (Jvm.Cond.code ({ cls := "java/lang/StringUTF16", name := "compress", desc := "([CI[BII)I" } : Jvm.MethodName) jdk_52_method_21_code (7 : Nat) (Option.some Jvm.ClassFile.FieldType.int)).before args0 about1 = true := code_word (m := ⟨14, 3⟩) (meth := k14m3) (c := k14c3) (by decide +kernel) rfl rfl rfl (by decide +kernel)
set_option maxRecDepth 65536 in
theorem w_c13 : (Jvm.Cond.code ({ cls := "java/lang/StringUTF16", name := "coderFromArrayLen", desc := "([BI)B" } : Jvm.MethodName) jdk_52_method_15_code (2 : Nat) (Option.some Jvm.ClassFile.FieldType.byte)).before args0 about1 = true := code_word (m := ⟨14, 1⟩) (meth := k14m1) (c := k14c1) (by decide +kernel) rfl rfl rfl (by decide +kernel)
def codes1 : List Jvm.Cond := [Jvm.Cond.code x code maxLocals ret, Jvm.Cond.code ({ cls := "com/example/libbuchi/libbuchi/formats/TokenIsPinLaw", name := "str", desc := "(ICC)Ljava/lang/String;" } : Jvm.MethodName) method_3_code (3 : Nat) (Option.some (Jvm.ClassFile.FieldType.object "java/lang/String")), Jvm.Cond.code ({ cls := "java/lang/String", name := "<init>", desc := "([C)V" } : Jvm.MethodName) jdk_42_method_3_code (2 : Nat) (Option.none : Option Jvm.ClassFile.FieldType), Jvm.Cond.code ({ cls := "java/lang/String", name := "<init>", desc := "([CIILjava/lang/Void;)V" } : Jvm.MethodName) jdk_42_method_149_code (6 : Nat) (Option.none : Option Jvm.ClassFile.FieldType), Jvm.Cond.code ({ cls := "java/lang/Object", name := "<init>", desc := "()V" } : Jvm.MethodName) object_method_1_code (1 : Nat) (Option.none : Option Jvm.ClassFile.FieldType), Jvm.Cond.code ({ cls := "com/example/libbuchi/libbuchi/formats/TokenIsPinLaw", name := "kind", desc := "(I)Lcom/example/libbuchi/libbuchi/formats/HoaLexer$Kind;" } : Jvm.MethodName) method_2_code (1 : Nat) (Option.some (Jvm.ClassFile.FieldType.object "com/example/libbuchi/libbuchi/formats/HoaLexer$Kind")), Jvm.Cond.code ({ cls := "com/example/libbuchi/libbuchi/formats/HoaLexer$Token", name := "<init>", desc := "(Lcom/example/libbuchi/libbuchi/formats/HoaLexer$Kind;Ljava/lang/String;II)V" } : Jvm.MethodName) prog_70_method_1_code (5 : Nat) (Option.none : Option Jvm.ClassFile.FieldType), Jvm.Cond.code ({ cls := "java/lang/Record", name := "<init>", desc := "()V" } : Jvm.MethodName) jdk_30_method_1_code (1 : Nat) (Option.none : Option Jvm.ClassFile.FieldType), Jvm.Cond.code ({ cls := "com/example/libbuchi/libbuchi/formats/HoaLexer$Token", name := "is", desc := "(Lcom/example/libbuchi/libbuchi/formats/HoaLexer$Kind;Ljava/lang/String;)Z" } : Jvm.MethodName) prog_70_method_3_code (3 : Nat) (Option.some Jvm.ClassFile.FieldType.boolean), Jvm.Cond.code ({ cls := "java/lang/String", name := "equals", desc := "(Ljava/lang/Object;)Z" } : Jvm.MethodName) jdk_42_method_66_code (3 : Nat) (Option.some Jvm.ClassFile.FieldType.boolean), Jvm.Cond.code ({ cls := "java/lang/StringLatin1", name := "equals", desc := "([B[B)Z" } : Jvm.MethodName) jdk_43_method_13_code (3 : Nat) (Option.some Jvm.ClassFile.FieldType.boolean), Jvm.Cond.code ({ cls := "java/lang/StringUTF16", name := "compress", desc := "([CII)[B" } : Jvm.MethodName) jdk_52_method_16_code (6 : Nat) (Option.some (Jvm.ClassFile.FieldType.array Jvm.ClassFile.FieldType.byte)), Jvm.Cond.code ({ cls := "java/lang/StringUTF16", name := "compress", desc := "([CI[BII)I" } : Jvm.MethodName) jdk_52_method_21_code (7 : Nat) (Option.some Jvm.ClassFile.FieldType.int), Jvm.Cond.code ({ cls := "java/lang/StringUTF16", name := "coderFromArrayLen", desc := "([BI)B" } : Jvm.MethodName) jdk_52_method_15_code (2 : Nat) (Option.some Jvm.ClassFile.FieldType.byte)]
set_option maxRecDepth 65536 in
theorem codes_eq : words1.filter isCode = codes1 := rfl
theorem w_codes : ∀ c ∈ words1.filter isCode, c.before args0 about1 = true := by
  rw [codes_eq]
  intro c hc
  simp only [codes1, List.mem_cons, List.not_mem_nil, or_false] at hc
  rcases hc with rfl | rfl | rfl | rfl | rfl | rfl | rfl | rfl | rfl | rfl | rfl | rfl | rfl | rfl
  · exact w_c0
  · exact w_c1
  · exact w_c2
  · exact w_c3
  · exact w_c4
  · exact w_c5
  · exact w_c6
  · exact w_c7
  · exact w_c8
  · exact w_c9
  · exact w_c10
  · exact w_c11
  · exact w_c12
  · exact w_c13
set_option maxRecDepth 65536 in
theorem w_t1 : (words1.take 24).all (fun c => isCode c || c.before args0 about1) = true := by decide +kernel
set_option maxRecDepth 65536 in
theorem w_t2 : ((words1.drop 24).take 24).all (fun c => isCode c || c.before args0 about1) = true := by decide +kernel
set_option maxRecDepth 65536 in
theorem w_t3 : (((words1.drop 24).drop 24).take 24).all (fun c => isCode c || c.before args0 about1) = true := by decide +kernel
set_option maxRecDepth 65536 in
theorem w_t4 : (((words1.drop 24).drop 24).drop 24).all (fun c => isCode c || c.before args0 about1) = true := by decide +kernel
theorem w_tables : (allAtoms (Jvm.Cond.code x code maxLocals ret :: tables_1)).before args0 about1 = true := by
  rw [allAtoms_all]
  show words1.all (fun c => c.before args0 about1) = true
  refine all_split ?_ w_codes
  rw [← List.take_append_drop 24 words1, List.all_append, w_t1, ← List.take_append_drop 24 (words1.drop 24), List.all_append, w_t2, ← List.take_append_drop 24 ((words1.drop 24).drop 24), List.all_append, w_t3, w_t4]
  rfl
set_option maxRecDepth 65536 in
theorem w_rest : rest_1_c.before args0 about1 = true := by decide +kernel
set_option maxRecDepth 65536 in
theorem w_case : (Jvm.Cond.and given_1 narrow_1).before args0 about1 = true := by decide +kernel
set_option maxRecDepth 65536 in
theorem w_consts : constsHeld consts_1 about1 := Jvm.Lit.constsHeldB_iff.mp (by decide +kernel)
theorem w_applies : (headSpec (Jvm.Cond.code x code maxLocals ret :: tables_1) room_1).applies x e0.platform about1 = true :=
  (Spec.applies_iff w_frames).mpr ⟨w_running, w_runnable, w_alone, w_named, w_hears, w_ripe, w_room, w_tables⟩
theorem atStart : AtStart classFile x code maxLocals ret World_1 tables_1 room_1 Calls_1 rest_1 Pre_1 launch0 p0 e0 about1 theMethod args0 below0 :=
  ⟨lists_1, trivial, launch0.admits_env _ _ _, launch0.least_env, fairChoices_fair.cas, fairChoices_fair.clock, w_frames, w_args, w_heap, w_applies, ⟨w_consts, trivial⟩, w_rest, w_case⟩
end start1
theorem witness_1 : WitnessClaimed_1 := ⟨start1.p0, start1.e0, start1.about1, start1.theMethod, start1.args0, start1.below0, start1.atStart⟩
end Jvm.Pilot.@@N@@
