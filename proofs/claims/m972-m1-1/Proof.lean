import JvmDerived
import JvmDerived.Pilot.@@N@@Statement
import JvmDerived.Pilot.@@N@@Code
set_option linter.unusedVariables false
set_option linter.unusedSimpArgs false
namespace Jvm.Own
open Sem ClassFile Op Lib Bundle Jvm.Stand Jvm.Free Jvm.LawKit Jvm.RoadKit
/-- the run from V comes to an end of which Φ holds -/
def Go (p : Program) (e : Env) (below : List Frame) (Φ : Outcome → State → Prop) (V : State) : Prop :=
  ∃ s₂ o, Steps p.tables e below V s₂ ∧ s₂.status = .running ∧ Ended s₂ below o ∧ Φ o s₂
/-- the end of a walk that interns nothing -/
def EndP (s : State) (Q : Option Value → Heap → List Loc → Prop) (C S : Nat) (o : Outcome) (U : State) : Prop :=
  ∃ v L, o = .returned v ∧ Q v U.heap L ∧ FrameEnd s o U L C S
/-- the end of a walk that may intern constants of EL -/
def EndH (Z : State) (EL : List (String × Nat)) (s : State) (Q : Option Value → Heap → List Loc → Prop) (C S : Nat) (o : Outcome) (U : State) : Prop :=
  ∃ v L, o = .returned v ∧ Q v U.heap L ∧ CHr Z EL s.vm s.heap U.vm U.heap ∧ ReturnedEndW s o U L C S
/-- what such a walk bears along -/
def HW (Z : State) (EL : List (String × Nat)) (s : State) (vm : Vm) (h : Heap) : Prop :=
  (∃ k0, s.Since vm k0 ∧ k0 ≤ h.size) ∧ CHr Z EL s.vm s.heap vm h
section G
variable {p : Program} {l : Launch} {e : Env} {R : Room} {s : State} {m : MethodId} {args : Array Value} {below : List Frame} {meth : Method} {c : Code} {T : State} {locs : List Loc} {cells slots : Nat}
  {Φ : Outcome → State → Prop} {V V' : State} {Z : State} {a0 : Array Value} {h h' : Heap} {EL : List (String × Nat)} {vm : Vm} {Q : Option Value → Heap → List Loc → Prop} {C S : Nat}
theorem Go.st (k : ∀ target, Steps p.tables e below V' target → Steps p.tables e below V target) (g : Go p e below Φ V') : Go p e below Φ V := by
  obtain ⟨s₂, o, h1, h2⟩ := g
  exact ⟨s₂, o, k _ h1, h2⟩
theorem Go.tr (k : Steps p.tables e below V V') (g : Go p e below Φ V') : Go p e below Φ V := by
  obtain ⟨s₂, o, h1, h2⟩ := g
  exact ⟨s₂, o, k.trans h1, h2⟩
theorem HW.ext (H : HW Z EL s vm h) (E : Ext h h') : HW Z EL s vm h' := by
  obtain ⟨⟨k0, h1, h2⟩, h3⟩ := H
  exact ⟨⟨k0, h1, Nat.le_trans h2 E.1⟩, h3.trans (CHr.ext E h3.1)⟩
theorem HW.wr (H : HW Z EL s vm h) {a : Addr} {sl : Nat} {v : Value} (W : Wr h h' a sl v) (S : Safe Z EL vm h a) : HW Z EL s vm h' := by
  obtain ⟨⟨k0, h1, h2⟩, h3⟩ := H
  exact ⟨⟨k0, h1, by rw [W.size]; exact h2⟩, h3.trans (CHr.wr W S h3.1)⟩
theorem HW.keep (H : HW Z EL s vm h) {ws : List Addr} (K : Keep h h' ws) (S : ∀ x ∈ ws, Safe Z EL vm h x) : HW Z EL s vm h' := by
  obtain ⟨⟨k0, h1, h2⟩, h3⟩ := H
  exact ⟨⟨k0, h1, Nat.le_trans h2 K.1⟩, h3.trans (CHr.keep K S h3.1)⟩
theorem keepE (K : Keep h h' []) : Ext h h' := ⟨K.1, fun a c q => K.2.1 a c q (fun z => nomatch z)⟩
theorem extK (E : Ext h h') : Keep h h' [] := (Keep.refl h []).ext E
/-- a String under construction, its value still null, is no booked one -/
theorem Safe.blank {x : Addr} (hal : Z.vm.Alike vm) (E : Exa Z h x "java/lang/String") (F : Fld Z h x "java/lang/String" "value" "[B" .null) : Safe Z EL vm h x := by
  rintro ⟨p, hp, u, a, hb, q, hq, F0, hy⟩
  obtain ⟨cS, ⟨⟨s1, s2, s3, ⟨cv, kv, iv, s4, s4'⟩, ⟨cc, kc, ic, s5, s5'⟩, s6, s7, s8, s9, s10, s11, s12, s13, s14, s15, s16⟩, hfS, hcS⟩, ⟨kS, k1, k2, k3⟩, hB, hbyt⟩ := F0
  rcases hy with rfl | rfl
  · obtain ⟨kv', z4⟩ := ff_back (U := Wst Z vm h) hal s4
    obtain ⟨cell, cf, k, i, f, f1, f2, f3, f4, f5, f6, f7⟩ := F
    cases f2.symm.trans z4
    have s1 : h[q.sa]? = some q.sC := s1
    cases f1.symm.trans s1
    have := f7.symm.trans s8
    simp at this
  · obtain ⟨cell, k, e1, e2, e3, e4, e5⟩ := E
    have s10 : h[q.sd]? = some q.SA := s10
    cases e1.symm.trans s10
    have hB : vm.findClass "[B" = some q.SA.cls := hB
    have hBZ : Z.vm.findClass "[B" = some q.SA.cls := by rw [← hal.findClass]; exact hB
    exact absurd (ids_ne e2 hBZ (by decide) rfl) (fun z => z)
/-- the contract of a body that interns nothing, from its walk -/
theorem openP {y : MethodName} {bytes : ByteArray} {maxL : Nat} {ret : Option FieldType} {ws : List Cond} {rm : Room} {as' : Array Value} (hp : plainFor y = true)
    (body : ∀ (p : Program) (e : Env) (s : State) (m : MethodId) (below : List Frame) (meth : Method) (c : Code) (T : State), p.tables.exec = Jvm.exec → c.code = bytes → c.maxLocals = maxL → meth.sig.returnType = ret → meth.locks = false → meth.name = y.name →
      Z.Warmed39 s.vm → s.vm.findClass y.cls = some m.cls → Stand p l e rm s m as' below meth c T [] 0 0 → T.heap = h → Go p e below (EndP s Q rm.cells rm.slots) (T.setTop (entryFrame m as' maxL))) :
    MetFree l y (head1 (Cond.code y bytes maxL ret :: ws) rm) (fun a U => a = as' ∧ Z.Warmed39 U.vm ∧ U.heap = h) (fun _ _ _ _ _ => True) (fun _ U o U' => ∃ v L, o = .returned v ∧ Q v U'.heap L ∧ FrameEnd U o U' L rm.cells rm.slots) := by
  refine MetFree.of_bodySF hp hisR ?_
  intro p e s m args below meth c s₁ Bd hml0 hP hK
  obtain ⟨rfl, hZ, hh⟩ := hP
  exact body p e s m below meth c s₁ Bd.exec Bd.bytes hml0 Bd.returns (BodyLoose.notSynchronized Bd) (name_of_methodNamed Bd.named Bd.method).1 hZ (findClass_of_methodNamed Bd.named) (Stand.of_body Bd) (by rw [← hh, Bd.state]; rfl)
/-- the contract of a body that may intern -/
theorem openH {y : MethodName} {bytes : ByteArray} {maxL : Nat} {ret : Option FieldType} {ws : List Cond} {rm : Room} {as' : Array Value} (hp : plainFor y = true)
    (body : ∀ (p : Program) (e : Env) (s : State) (m : MethodId) (below : List Frame) (meth : Method) (c : Code) (T : State) (vm : Vm), p.tables.exec = Jvm.exec → c.code = bytes → c.maxLocals = maxL → meth.sig.returnType = ret → meth.locks = false → meth.name = y.name →
      Z.Warmed39 vm → vm.findClass y.cls = some m.cls → Stand p l e rm (s.setVm vm) m as' below meth c T [] 0 0 → T.heap = h → HW Z EL s vm h → Go p e below (EndH Z EL s Q rm.cells rm.slots) (T.setTop (entryFrame m as' maxL))) :
    MetFree l y (head1 (Cond.code y bytes maxL ret :: ws) rm) (fun a U => a = as' ∧ Z.Warmed39 U.vm ∧ U.heap = h ∧ CHv Z EL U.vm h) (fun _ _ _ _ _ => True)
      (fun _ U o U' => ∃ v L, o = .returned v ∧ Q v U'.heap L ∧ CHr Z EL U.vm U.heap U'.vm U'.heap ∧ ReturnedEndW U o U' L rm.cells rm.slots) := by
  refine MetFree.of_bodySF hp hisR ?_
  intro p e s m args below meth c s₁ Bd hml0 hP hK
  obtain ⟨rfl, hZ, hh, hC⟩ := hP
  have hH : HW Z EL s s.vm h := ⟨⟨0, (State.WarmedH.refl s).since 0, Nat.zero_le _⟩, by rw [hh]; exact CHr.refl hC⟩
  exact body p e s m below meth c s₁ s.vm Bd.exec Bd.bytes hml0 Bd.returns (BodyLoose.notSynchronized Bd) (name_of_methodNamed Bd.named Bd.method).1 hZ (findClass_of_methodNamed Bd.named) (Stand.of_body Bd) (by rw [← hh, Bd.state]; rfl) hH
/-- a value is returned -/
theorem Go.ret (X : Stand p l e R s m args below meth c T locs cells slots) (hx : p.tables.exec = Jvm.exec) (hlk : meth.locks = false) (hT : T.heap = h) {pc : Nat} {Ls : Array Slot} {w : Value} {t : FieldType} {i : Instr} {rest : List Value} (hret : meth.sig.returnType = some t) (hn : narrow t w = w)
    (hi : (i = .ireturn ∧ (t = .int ∨ t = .boolean ∨ t = .byte ∨ t = .char ∨ t = .short) ∧ ∃ z, w = .int z) ∨ (i = .lreturn ∧ t = .long ∧ ∃ z, w = .long z) ∨ (i = .dreturn ∧ t = .double ∧ ∃ z, w = .double z) ∨ (i = .freturn ∧ t = .float ∧ ∃ z, w = .float z) ∨ (i = .areturn ∧ t.isReference = true ∧ w.isRef = true))
    (hd : decode c.code pc = .ok (i, 1)) (hc : cells ≤ C) (hs : slots ≤ S) (hQ : Q (some w) h locs) : Go p e below (EndP s Q C S) (T.setTop (mkF m pc Ls (w :: rest))) := by
  obtain ⟨fs, hr, hrun, hended, hW, hsame⟩ := X.leave (v := some w) (fun h => by rw [hret] at h; cases h) hlk
  refine ⟨_, _, retOut X hx hret hn hi hd hr, hrun, hended, _, _, rfl, ?_, ⟨_, rfl⟩, hW, hsame.mono hc hs⟩
  show Q (some w) T.heap locs
  rw [hT]; exact hQ
theorem Go.retV (X : Stand p l e R s m args below meth c T locs cells slots) (hx : p.tables.exec = Jvm.exec) (hlk : meth.locks = false) (hT : T.heap = h) {pc : Nat} {Ls : Array Slot} (hret : meth.sig.returnType = none)
    (hd : decode c.code pc = .ok (.return_, 1)) (hc : cells ≤ C) (hs : slots ≤ S) (hQ : Q none h locs) : Go p e below (EndP s Q C S) (T.setTop (mkF m pc Ls [])) := by
  obtain ⟨fs, hr, hrun, hended, hW, hsame⟩ := X.leave (v := none) (fun _ => rfl) hlk
  refine ⟨_, _, X.returnOut hx hret hd hr, hrun, hended, _, _, rfl, ?_, ⟨_, rfl⟩, hW, hsame.mono hc hs⟩
  show Q none T.heap locs
  rw [hT]; exact hQ
theorem endW_mono {o : Outcome} {U : State} {L : List Loc} {k n : Nat} (q : ReturnedEndW s o U L k n) (hc : k ≤ C) (hs : n ≤ S) : ReturnedEndW s o U L C S := ⟨q.1, q.2.1, q.2.2.1, q.2.2.2.mono hc hs⟩
theorem Go.retH (hEL : EW Z a0 EL) (H : HW Z EL s vm h) (hZ : Z.Warmed39 vm) (X : Stand p l e R (s.setVm vm) m args below meth c T locs cells slots) (hx : p.tables.exec = Jvm.exec) (hlk : meth.locks = false) (hT : T.heap = h) {pc : Nat} {Ls : Array Slot} {w : Value} {t : FieldType} {i : Instr} {rest : List Value} (hret : meth.sig.returnType = some t) (hn : narrow t w = w)
    (hi : (i = .ireturn ∧ (t = .int ∨ t = .boolean ∨ t = .byte ∨ t = .char ∨ t = .short) ∧ ∃ z, w = .int z) ∨ (i = .lreturn ∧ t = .long ∧ ∃ z, w = .long z) ∨ (i = .dreturn ∧ t = .double ∧ ∃ z, w = .double z) ∨ (i = .freturn ∧ t = .float ∧ ∃ z, w = .float z) ∨ (i = .areturn ∧ t.isReference = true ∧ w.isRef = true))
    (hd : decode c.code pc = .ok (i, 1)) (hc : cells ≤ C) (hs : slots ≤ S) (hQ : Q (some w) h locs) : Go p e below (EndH Z EL s Q C S) (T.setTop (mkF m pc Ls (w :: rest))) := by
  obtain ⟨⟨k0, h1, h2⟩, h3⟩ := H
  obtain ⟨fs, hr, hrun, hended, hE⟩ := X.leaveW h1 (by rw [hT]; exact h2) (v := some w) (fun h => by rw [hret] at h; cases h) hlk
  refine ⟨_, _, retOut X hx hret hn hi hd hr, hrun, hended, _, _, rfl, ?_, ?_, endW_mono hE hc hs⟩
  · show Q (some w) T.heap locs
    rw [hT]; exact hQ
  · show CHr Z EL s.vm s.heap T.vm T.heap
    rw [hT]; exact h3.trans (CHv.at X hZ hEL h3.1)
theorem Go.retVH (hEL : EW Z a0 EL) (H : HW Z EL s vm h) (hZ : Z.Warmed39 vm) (X : Stand p l e R (s.setVm vm) m args below meth c T locs cells slots) (hx : p.tables.exec = Jvm.exec) (hlk : meth.locks = false) (hT : T.heap = h) {pc : Nat} {Ls : Array Slot} (hret : meth.sig.returnType = none)
    (hd : decode c.code pc = .ok (.return_, 1)) (hc : cells ≤ C) (hs : slots ≤ S) (hQ : Q none h locs) : Go p e below (EndH Z EL s Q C S) (T.setTop (mkF m pc Ls [])) := by
  obtain ⟨⟨k0, h1, h2⟩, h3⟩ := H
  obtain ⟨fs, hr, hrun, hended, hE⟩ := X.leaveW h1 (by rw [hT]; exact h2) (v := none) (fun _ => rfl) hlk
  refine ⟨_, _, X.returnOut hx hret hd hr, hrun, hended, _, _, rfl, ?_, ?_, endW_mono hE hc hs⟩
  · show Q none T.heap locs
    rw [hT]; exact hQ
  · show CHr Z EL s.vm s.heap T.vm T.heap
    rw [hT]; exact h3.trans (CHv.at X hZ hEL h3.1)
theorem riI {z : Int32} {t : FieldType} (ht : t = .int ∨ t = .boolean ∨ t = .byte ∨ t = .char ∨ t = .short) : ((Instr.ireturn = .ireturn ∧ (t = .int ∨ t = .boolean ∨ t = .byte ∨ t = .char ∨ t = .short) ∧ ∃ z', Value.int z = .int z') ∨ (Instr.ireturn = .lreturn ∧ t = .long ∧ ∃ z', Value.int z = .long z') ∨ (Instr.ireturn = .dreturn ∧ t = .double ∧ ∃ z', Value.int z = .double z') ∨ (Instr.ireturn = .freturn ∧ t = .float ∧ ∃ z', Value.int z = .float z') ∨ (Instr.ireturn = .areturn ∧ t.isReference = true ∧ (Value.int z).isRef = true)) := Or.inl ⟨rfl, ht, z, rfl⟩
theorem riA {w : Value} {t : FieldType} (ht : t.isReference = true) (hw : w.isRef = true) : ((Instr.areturn = .ireturn ∧ (t = .int ∨ t = .boolean ∨ t = .byte ∨ t = .char ∨ t = .short) ∧ ∃ z', w = .int z') ∨ (Instr.areturn = .lreturn ∧ t = .long ∧ ∃ z', w = .long z') ∨ (Instr.areturn = .dreturn ∧ t = .double ∧ ∃ z', w = .double z') ∨ (Instr.areturn = .freturn ∧ t = .float ∧ ∃ z', w = .float z') ∨ (Instr.areturn = .areturn ∧ t.isReference = true ∧ w.isRef = true)) := Or.inr (Or.inr (Or.inr (Or.inr ⟨rfl, ht, hw⟩)))
/-- the shape that every payer here has -/
abbrev PB (l : Launch) (R : Room) (p : Program) (e : Env) (below : List Frame) (s : State) (args : Array Value) (y : MethodName) (W : Nat) (as' : Array Value) (h : Heap) (ck sk : Nat) (Q : Option Value → Heap → List Loc → Prop) : Prop :=
  Back l R p e below s args y 3 W (fun A a => a = as' ∧ A.U.heap = h ∧ A.cells + ck ≤ R.cells ∧ A.slots + sk ≤ R.slots) (fun A _ v B => ∃ L, Q v B.U.heap L ∧ B.locs = A.locs ++ L ∧ B.cells = A.cells + ck ∧ B.slots = A.slots + sk)
variable {own : String} {index W ck sk pc : Nat} {y : MethodName} {bytes : ByteArray} {maxL : Nat} {ret : Option FieldType} {Ls : Array Slot} {argsL rest st : List Value} {ps : List FieldType} {rr : Option FieldType} {a : Addr}
/-- invokestatic of a callee that interns nothing -/
theorem Go.callP (X : Stand p l e R s m args below meth c T locs cells slots) (hx : p.tables.exec = Jvm.exec) (hZ : Z.Warmed39 s.vm) (hown : s.vm.findClass own = some m.cls) (hml : c.maxLocals = Ls.size) (hT : T.heap = h)
    (w1 : (Cond.methodLink own index y).before a0 Z = true) (w2 : (Cond.static y).before a0 Z = true) (w3 : (Cond.initialized y.cls).before a0 Z = true) (w4 : (Cond.code y bytes maxL ret).before a0 Z = true) (hy : y.cls ≠ "java/lang/invoke/MethodHandle" ∧ y.cls ≠ "java/lang/invoke/VarHandle")
    (hpd : parseMethodDescriptor y.desc = some ⟨ps, rr⟩) (hlen : argsL.length = ps.length) (hst : st = argsL.reverse ++ rest) (hW : (rest.map fun v => v.category).sum ≤ W) (hd : decode c.code pc = .ok (.invokestatic index, 3))
    (hB : PB l R p e below s args y W argsL.toArray h ck sk Q) (hc : cells + ck ≤ R.cells) (hs : slots + sk ≤ R.slots)
    (k : ∀ (v : Option Value) (T' : State) (h' : Heap) (L : List Loc), T'.heap = h' → Q v h' L → Stand p l e R s m args below meth c T' (locs ++ L) (cells + ck) (slots + sk) → Go p e below Φ (T'.setTop (mkF m (pc + 3) Ls (v.toList ++ rest)))) :
    Go p e below Φ (T.setTop (mkF m pc Ls st)) := by
  subst hst
  obtain ⟨v, vm₁, ⟨T', L', k', n'⟩, -, X', ⟨L, hQ, l', y', z'⟩, st⟩ := Jvm.LawKit.callS X hx (y := y) hown (mvT hZ w1) (mvT hZ w2) (mvT hZ w3) (mvT hZ w4) hy hB (g := mkF m pc Ls (argsL.reverse ++ rest)) rfl hml.symm (argsL := argsL) (rest := rest) (lenOf hpd hlen) rfl (by show 2 * 0 + _ ≤ _; omega) hd (fun _ _ => ⟨rfl, hT, hc, hs⟩)
  dsimp only [Pt.U, Pt.locs, Pt.cells, Pt.slots] at X' l' y' z' st hQ
  subst l' y' z'
  exact Go.st st (k v T' _ L rfl hQ X')
/-- invokespecial of a constructor that interns nothing -/
theorem Go.specP (X : Stand p l e R s m args below meth c T locs cells slots) (hx : p.tables.exec = Jvm.exec) (hZ : Z.Warmed39 s.vm) (hown : s.vm.findClass own = some m.cls) (hml : c.maxLocals = Ls.size) (hT : T.heap = h) (hy1 : y.name = "<init>")
    (w1 : (Cond.methodLink own index y).before a0 Z = true) (w2 : (Cond.instanceMethod y).before a0 Z = true) (w4 : (Cond.code y bytes maxL none).before a0 Z = true) (hy : y.cls ≠ "java/lang/invoke/MethodHandle" ∧ y.cls ≠ "java/lang/invoke/VarHandle")
    (hpd : parseMethodDescriptor y.desc = some ⟨ps, rr⟩) (hlen : argsL.length = ps.length) (hst : st = argsL.reverse ++ .ref a :: rest) (hW : (rest.map fun v => v.category).sum ≤ W) (hd : decode c.code pc = .ok (.invokespecial index, 3))
    (hB : PB l R p e below s args y W (.ref a :: argsL).toArray h ck sk Q) (hc : cells + ck ≤ R.cells) (hs : slots + sk ≤ R.slots)
    (k : ∀ (v : Option Value) (T' : State) (h' : Heap) (L : List Loc), T'.heap = h' → Q v h' L → Stand p l e R s m args below meth c T' (locs ++ L) (cells + ck) (slots + sk) → Go p e below Φ (T'.setTop (mkF m (pc + 3) Ls (v.toList ++ rest)))) :
    Go p e below Φ (T.setTop (mkF m pc Ls st)) := by
  subst hst
  obtain ⟨v, vm₁, ⟨T', L', k', n'⟩, -, X', ⟨L, hQ, l', y', z'⟩, st⟩ := X.specialBack hx (y := y) hy1 hown (mvT hZ w1) (mvT hZ w2) (mvT hZ w4) hy hB (g := mkF m pc Ls (argsL.reverse ++ .ref a :: rest)) rfl hml.symm (Steps.refl _) (a := a) (argsL := argsL) (rest := rest) (lenOf hpd hlen) rfl (by show 2 * 0 + _ ≤ _; omega) hd (fun _ _ => ⟨rfl, hT, hc, hs⟩)
  dsimp only [Pt.U, Pt.locs, Pt.cells, Pt.slots] at X' l' y' z' st hQ
  subst l' y' z'
  exact Go.tr st (k v T' _ L rfl hQ X')
/-- invokevirtual of a callee that interns nothing, on an object exactly of class K -/
theorem Go.virtP {K : String} {z : MethodName} (X : Stand p l e R s m args below meth c T locs cells slots) (hx : p.tables.exec = Jvm.exec) (hZ : Z.Warmed39 s.vm) (hown : s.vm.findClass own = some m.cls) (hml : c.maxLocals = Ls.size) (hT : T.heap = h) (E : Exa Z h a K)
    (w1 : (Cond.methodLink own index y).before a0 Z = true) (w2 : (Cond.declares y).before a0 Z = true) (w3 : (Cond.selects K y z).before a0 Z = true) (w4 : (Cond.instanceMethod z).before a0 Z = true) (hy : y.cls ≠ "java/lang/invoke/MethodHandle" ∧ y.cls ≠ "java/lang/invoke/VarHandle")
    (hpd : parseMethodDescriptor y.desc = some ⟨ps, rr⟩) (hlen : argsL.length = ps.length) (hst : st = argsL.reverse ++ .ref a :: rest) (hW : (rest.map fun v => v.category).sum ≤ W) (hd : decode c.code pc = .ok (.invokevirtual index, 3))
    (hnf : NotFace s y)
    (hB : PB l R p e below s args z W (.ref a :: argsL).toArray h ck sk Q) (hc : cells + ck ≤ R.cells) (hs : slots + sk ≤ R.slots)
    (k : ∀ (v : Option Value) (T' : State) (h' : Heap) (L : List Loc), T'.heap = h' → Q v h' L → Stand p l e R s m args below meth c T' (locs ++ L) (cells + ck) (slots + sk) → Go p e below Φ (T'.setTop (mkF m (pc + 3) Ls (v.toList ++ rest)))) :
    Go p e below Φ (T.setTop (mkF m pc Ls st)) := by
  subst hst
  obtain ⟨cq, kq, qa, qb, qc⟩ := isOf (s := s) (T := T) hZ hT E
  obtain ⟨v, vm₁, ⟨T', L', k', n'⟩, -, X', ⟨L, hQ, l', y', z'⟩, st⟩ := X.virtualBack hx (y := y) (z := z) hown (mvT hZ w1) (mvT hZ w2) hnf (mvT hZ w3) (mvT hZ w4) hy hB qa qc (g := mkF m pc Ls (argsL.reverse ++ .ref a :: rest)) rfl hml.symm (Steps.refl _) (argsL := argsL) (rest := rest) (lenOf hpd hlen) rfl (by show 2 * 0 + _ ≤ _; omega) hd (fun _ _ => ⟨rfl, hT, hc, hs⟩)
  dsimp only [Pt.U, Pt.locs, Pt.cells, Pt.slots] at X' l' y' z' st hQ
  subst l' y' z'
  exact Go.tr st (k v T' _ L rfl hQ X')
/-- the shape of a payer that may intern -/
abbrev PBH (Z : State) (EL : List (String × Nat)) (l : Launch) (R : Room) (p : Program) (e : Env) (below : List Frame) (s : State) (vm : Vm) (args : Array Value) (y : MethodName) (W : Nat) (as' : Array Value) (h : Heap) (ck sk : Nat) (Q : Option Value → Heap → List Loc → Prop) : Prop :=
  BackS l R p e below (s.setVm vm) args y 3 W (fun A a => a = as' ∧ A.U.heap = h ∧ A.cells + ck ≤ R.cells ∧ A.slots + sk ≤ R.slots) (fun A _ v B => ∃ L, Q v B.U.heap L ∧ B.locs = A.locs ++ L ∧ B.cells = A.cells + ck ∧ B.slots = A.slots + sk ∧ CHr Z EL vm h B.U.vm B.U.heap)
theorem HW.call (H : HW Z EL s vm h) (hT : T.heap = h) {U : State} (h1 : (s.setVm vm).Since U.vm U.heap.size) (h2 : T.heap.size ≤ U.heap.size) (h3 : CHr Z EL vm h U.vm U.heap) : HW Z EL s U.vm U.heap := by
  obtain ⟨⟨k0, g1, g2⟩, g3⟩ := H
  exact ⟨⟨_, g1.trans h1 (Nat.le_trans g2 (by rw [← hT]; exact h2)), Nat.le_refl _⟩, g3.trans h3⟩
/-- invokestatic of a callee that may intern -/
theorem Go.callH (H : HW Z EL s vm h) (X : Stand p l e R (s.setVm vm) m args below meth c T locs cells slots) (hx : p.tables.exec = Jvm.exec) (hZ : Z.Warmed39 vm) (hown : vm.findClass own = some m.cls) (hml : c.maxLocals = Ls.size) (hT : T.heap = h)
    (w1 : (Cond.methodLink own index y).before a0 Z = true) (w2 : (Cond.static y).before a0 Z = true) (w3 : (Cond.initialized y.cls).before a0 Z = true) (w4 : (Cond.code y bytes maxL ret).before a0 Z = true) (hy : y.cls ≠ "java/lang/invoke/MethodHandle" ∧ y.cls ≠ "java/lang/invoke/VarHandle")
    (hpd : parseMethodDescriptor y.desc = some ⟨ps, rr⟩) (hlen : argsL.length = ps.length) (hst : st = argsL.reverse ++ rest) (hW : (rest.map fun v => v.category).sum ≤ W) (hd : decode c.code pc = .ok (.invokestatic index, 3))
    (hB : PBH Z EL l R p e below s vm args y W argsL.toArray h ck sk Q) (hc : cells + ck ≤ R.cells) (hs : slots + sk ≤ R.slots)
    (k : ∀ (v : Option Value) (T' : State) (h' : Heap) (L : List Loc) (vm' : Vm), T'.heap = h' → Q v h' L → Z.Warmed39 vm' → vm'.findClass own = some m.cls → HW Z EL s vm' h' → CHr Z EL vm h vm' h' → Stand p l e R (s.setVm vm') m args below meth c T' (locs ++ L) (cells + ck) (slots + sk) → Go p e below Φ (T'.setTop (mkF m (pc + 3) Ls (v.toList ++ rest)))) :
    Go p e below Φ (T.setTop (mkF m pc Ls st)) := by
  subst hst
  obtain ⟨v, vm₁, ⟨T', L', k', n'⟩, -, X', hS', hG', ⟨L, hQ, l', y', z', hR⟩, st⟩ := callSS X hx (y := y) hown (mvT (s := s.setVm vm) hZ w1) (mvT (s := s.setVm vm) hZ w2) (mvT (s := s.setVm vm) hZ w3) (mvT (s := s.setVm vm) hZ w4) hy hB (g := mkF m pc Ls (argsL.reverse ++ rest)) rfl hml.symm (argsL := argsL) (rest := rest) (lenOf hpd hlen) rfl (by show 2 * 0 + _ ≤ _; omega) hd (fun _ _ => ⟨rfl, hT, hc, hs⟩)
  dsimp only [Pt.U, Pt.locs, Pt.cells, Pt.slots] at X' l' y' z' st hQ hS' hG' hR
  subst l' y' z'
  have hW' : Z.Warmed39 T'.vm := State.Warmed39.trans (t := s.setVm vm) hZ hS'.1
  exact Go.tr st (k v T' _ L T'.vm rfl hQ hW' ((hS'.1.alike.findClass _ _).trans hown) (H.call hT hS' hG' hR) hR X')
/-- invokespecial of a constructor that may intern -/
theorem Go.specH (H : HW Z EL s vm h) (X : Stand p l e R (s.setVm vm) m args below meth c T locs cells slots) (hx : p.tables.exec = Jvm.exec) (hZ : Z.Warmed39 vm) (hown : vm.findClass own = some m.cls) (hml : c.maxLocals = Ls.size) (hT : T.heap = h) (hy1 : y.name = "<init>")
    (w1 : (Cond.methodLink own index y).before a0 Z = true) (w2 : (Cond.instanceMethod y).before a0 Z = true) (w4 : (Cond.code y bytes maxL none).before a0 Z = true) (hy : y.cls ≠ "java/lang/invoke/MethodHandle" ∧ y.cls ≠ "java/lang/invoke/VarHandle")
    (hpd : parseMethodDescriptor y.desc = some ⟨ps, rr⟩) (hlen : argsL.length = ps.length) (hst : st = argsL.reverse ++ .ref a :: rest) (hW : (rest.map fun v => v.category).sum ≤ W) (hd : decode c.code pc = .ok (.invokespecial index, 3))
    (hB : PBH Z EL l R p e below s vm args y W (.ref a :: argsL).toArray h ck sk Q) (hc : cells + ck ≤ R.cells) (hs : slots + sk ≤ R.slots)
    (k : ∀ (v : Option Value) (T' : State) (h' : Heap) (L : List Loc) (vm' : Vm), T'.heap = h' → Q v h' L → Z.Warmed39 vm' → vm'.findClass own = some m.cls → HW Z EL s vm' h' → CHr Z EL vm h vm' h' → Stand p l e R (s.setVm vm') m args below meth c T' (locs ++ L) (cells + ck) (slots + sk) → Go p e below Φ (T'.setTop (mkF m (pc + 3) Ls (v.toList ++ rest)))) :
    Go p e below Φ (T.setTop (mkF m pc Ls st)) := by
  subst hst
  obtain ⟨v, vm₁, ⟨T', L', k', n'⟩, -, X', hS', hG', ⟨L, hQ, l', y', z', hR⟩, st⟩ := X.specialBackS hx (y := y) hy1 hown (mvT (s := s.setVm vm) hZ w1) (mvT (s := s.setVm vm) hZ w2) (mvT (s := s.setVm vm) hZ w4) hy hB (g := mkF m pc Ls (argsL.reverse ++ .ref a :: rest)) rfl hml.symm (Steps.refl _) (a := a) (argsL := argsL) (rest := rest) (lenOf hpd hlen) rfl (by show 2 * 0 + _ ≤ _; omega) hd (fun _ _ => ⟨rfl, hT, hc, hs⟩)
  dsimp only [Pt.U, Pt.locs, Pt.cells, Pt.slots] at X' l' y' z' st hQ hS' hG' hR
  subst l' y' z'
  have hW' : Z.Warmed39 T'.vm := State.Warmed39.trans (t := s.setVm vm) hZ hS'.1
  exact Go.tr st (k v T' _ L T'.vm rfl hQ hW' ((hS'.1.alike.findClass _ _).trans hown) (H.call hT hS' hG' hR) hR X')
/-- what a body leaves that answers w and touches nothing -/
abbrev QV (w : Value) (h0 : Heap) (v : Option Value) (h : Heap) (L : List Loc) : Prop := v = some w ∧ L = [] ∧ h = h0
/-- invokestatic of such a body -/
theorem Go.callV {w : Value} (X : Stand p l e R s m args below meth c T locs cells slots) (hx : p.tables.exec = Jvm.exec) (hZ : Z.Warmed39 s.vm) (hown : s.vm.findClass own = some m.cls) (hml : c.maxLocals = Ls.size) (hT : T.heap = h)
    (w1 : (Cond.methodLink own index y).before a0 Z = true) (w2 : (Cond.static y).before a0 Z = true) (w3 : (Cond.initialized y.cls).before a0 Z = true) (w4 : (Cond.code y bytes maxL ret).before a0 Z = true) (hy : y.cls ≠ "java/lang/invoke/MethodHandle" ∧ y.cls ≠ "java/lang/invoke/VarHandle")
    (hpd : parseMethodDescriptor y.desc = some ⟨ps, rr⟩) (hlen : argsL.length = ps.length) (hst : st = argsL.reverse ++ rest) (hW : (rest.map fun v => v.category).sum ≤ W) (hd : decode c.code pc = .ok (.invokestatic index, 3))
    (hB : PB l R p e below s args y W argsL.toArray h 0 0 (QV w h)) (hc : cells ≤ R.cells) (hs : slots ≤ R.slots)
    (k : ∀ (T' : State), T'.heap = h → Stand p l e R s m args below meth c T' locs cells slots → Go p e below Φ (T'.setTop (mkF m (pc + 3) Ls (w :: rest)))) :
    Go p e below Φ (T.setTop (mkF m pc Ls st)) := by
  refine Go.callP X hx hZ hown hml hT w1 w2 w3 w4 hy hpd hlen hst hW hd hB hc hs ?_
  rintro v T' h' L hT' ⟨rfl, rfl, rfl⟩ X'
  rw [List.append_nil] at X'
  exact k T' hT' X'
/-- invokevirtual of such a body -/
theorem Go.virtV {K : String} {z : MethodName} {w : Value} (X : Stand p l e R s m args below meth c T locs cells slots) (hx : p.tables.exec = Jvm.exec) (hZ : Z.Warmed39 s.vm) (hown : s.vm.findClass own = some m.cls) (hml : c.maxLocals = Ls.size) (hT : T.heap = h) (E : Exa Z h a K)
    (w1 : (Cond.methodLink own index y).before a0 Z = true) (w2 : (Cond.declares y).before a0 Z = true) (w3 : (Cond.selects K y z).before a0 Z = true) (w4 : (Cond.instanceMethod z).before a0 Z = true) (hy : y.cls ≠ "java/lang/invoke/MethodHandle" ∧ y.cls ≠ "java/lang/invoke/VarHandle")
    (hpd : parseMethodDescriptor y.desc = some ⟨ps, rr⟩) (hlen : argsL.length = ps.length) (hst : st = argsL.reverse ++ .ref a :: rest) (hW : (rest.map fun v => v.category).sum ≤ W) (hd : decode c.code pc = .ok (.invokevirtual index, 3))
    (hnf : NotFace s y)
    (hB : PB l R p e below s args z W (.ref a :: argsL).toArray h 0 0 (QV w h)) (hc : cells ≤ R.cells) (hs : slots ≤ R.slots)
    (k : ∀ (T' : State), T'.heap = h → Stand p l e R s m args below meth c T' locs cells slots → Go p e below Φ (T'.setTop (mkF m (pc + 3) Ls (w :: rest)))) :
    Go p e below Φ (T.setTop (mkF m pc Ls st)) := by
  refine Go.virtP X hx hZ hown hml hT E w1 w2 w3 w4 hy hpd hlen hst hW hd hnf hB hc hs ?_
  rintro v T' h' L hT' ⟨rfl, rfl, rfl⟩ X'
  rw [List.append_nil] at X'
  exact k T' hT' X'
/-- ldc of a String constant of EL, its text read -/
theorem Go.ldcS (H : HW Z EL s vm h) (X : Stand p l e R (s.setVm vm) m args below meth c T locs cells slots) (hx : p.tables.exec = Jvm.exec) (hZ : Z.Warmed39 vm) (hown : vm.findClass own = some m.cls) (hT : T.heap = h) {text : String}
    (w : (Cond.stringLink own index text).before a0 Z = true) (wS : ∀ a ∈ Bundle.stringAtoms, a.before a0 Z = true) (hEL : EW Z a0 EL) (hmem : (own, index) ∈ EL) {vs : List Value} {z : Int32}
    (ht : (∀ c ∈ text.toList, c.toNat < 256) ∧ text.toList.map (fun c => Value.int (Jvm.Lit.byteI c.toNat.toUInt16)) = vs) (hz : ¬ z < 0) (hl : z.toNatClampNeg = vs.length) (hd : decode c.code pc = .ok (.ldc index, 2)) {n : Nat} (hn : 4 * text.toList.length ≤ n) (hbig : n ≤ 536870912) (hc : cells + 2 ≤ R.cells) (hl' : slots + (n + 4) ≤ R.slots)
    (k : ∀ (a : Addr) (T' : State) (h' : Heap) (vm' : Vm) (b : Addr) (kb : ClassId), T'.heap = h' → Ext h h' → Z.Warmed39 vm' → vm'.findClass own = some m.cls → HW Z EL s vm' h' → CHr Z EL vm h vm' h' →
      Exa Z h' a "java/lang/String" → Fld Z h' a "java/lang/String" "coder" "B" (.int 0) → Fld Z h' a "java/lang/String" "value" "[B" (.ref b) → Arv Z h' b kb .byte z vs (.int 0) → Stand p l e R (s.setVm vm') m args below meth c T' locs (cells + 2) (slots + (n + 4)) → Go p e below Φ (T'.setTop (mkF m (pc + 2) Ls (.ref a :: st)))) :
    Go p e below Φ (T.setTop (mkF m pc Ls st)) := by
  obtain ⟨⟨k0, g1, g2⟩, g3⟩ := H
  obtain ⟨a, T', h', k1, b, kb, X', hT', E', hS', hk', hZ', hown', LE, LC, LV, LA, -, -, hR, -, -, st'⟩ := ldcCH X hx hZ hown w wS hT g1 g2 hEL hmem g3.1 ht hz hl (g := mkF m pc Ls st) rfl hd hn hbig hc hl'
  exact Go.st st' (k a T' h' T'.vm b kb hT' E' hZ' hown' ⟨⟨k1, hS', hk'⟩, g3.trans hR⟩ hR LE LC LV LA X')
/-- roads that meet: what differs becomes a variable -/
theorem own_cutT {h : Heap} (X : Stand p l e R s m args below meth c T locs cells slots) (hT : T.heap = h) (F : Int32 → JFrame) (a : Int32)
    (K : ∀ (v : Int32) (T' : State), v = a → T'.heap = h → Stand p l e R s m args below meth c T' locs cells slots → Go p e below Φ (T'.setTop (F v)))
    (g : (∀ (v : Int32) (T' : State), v = a → T'.heap = h → Stand p l e R s m args below meth c T' locs cells slots → Go p e below Φ (T'.setTop (F v))) → Go p e below Φ V) : Go p e below Φ V := g K
/-! arrays, by natural indices -/
theorem own_int {n : Nat} (h : n < 2147483648) : (Int32.ofNat n).toInt = n := Int32.toInt_ofNat_small h
theorem own_clamp {n : Nat} (h : n < 2147483648) : (Int32.ofNat n).toNatClampNeg = n := by
  rw [Int32.toNatClampNeg, own_int h]; rfl
theorem own_nn {n : Nat} (h : n < 2147483648) : ¬ Int32.ofNat n < 0 := by
  rw [Int32.lt_iff_toInt_lt, own_int h]; show ¬ (n : Int) < 0; omega
theorem own_lt {a b : Nat} (ha : a < 2147483648) (hb : b < 2147483648) : Int32.ofNat a < Int32.ofNat b ↔ a < b := by
  rw [Int32.lt_iff_toInt_lt, own_int ha, own_int hb]; omega
theorem own_eqN {a b : Nat} (ha : a < 2147483648) (hb : b < 2147483648) : Int32.ofNat a = Int32.ofNat b ↔ a = b := by
  rw [← Int32.toInt_inj, own_int ha, own_int hb]; omega
theorem own_succ (n : Nat) : Int32.ofNat n + (1 : Int32) = Int32.ofNat (n + 1) := by
  show _ + Int32.ofNat 1 = _
  rw [← Int32.ofNat_add]
theorem own_dbl {n : Nat} (h : 2 * n < 2147483648) : Int32.ofNat n <<< ((1 : Int32) &&& 31) = Int32.ofNat (2 * n) := by
  rw [shlm (x := Int32.ofNat n) (k := 1) (m := 2) (by decide)]
  show _ * Int32.ofNat 2 = _
  rw [← Int32.ofNat_mul, Nat.mul_comm]
variable {k : ClassId} {N : Int32} {vs : List Value} {dv : Value} {ty : FieldType} {i : Nat} {w : Value}
theorem Go.caloadN (X : Stand p l e R s m args below meth c T locs cells slots) (hx : p.tables.exec = Jvm.exec) (hZ : Z.Warmed39 s.vm) (hT : T.heap = h) (F : Arv Z h a k .char N vs dv) (hi : i < N.toNatClampNeg) (hi2 : i < 2147483648) (hv : vs.getD i dv = w) (hd : decode c.code pc = .ok (.caload, 1))
    (g : Go p e below Φ (T.setTop (mkF m (pc + 1) Ls (w :: rest)))) : Go p e below Φ (T.setTop (mkF m pc Ls (.int (Int32.ofNat i) :: .ref a :: rest))) := by
  obtain ⟨cl, A, -, S0, M0, H0, U0⟩ := F
  have hin : ¬ (Int32.ofNat i < 0 ∨ cl.slots.size ≤ (Int32.ofNat i).toNatClampNeg) := by
    rw [own_clamp hi2, S0]; rintro (q | q)
    · exact own_nn hi2 q
    · omega
  have hat : cl.slots[(Int32.ofNat i).toNatClampNeg]? = some w := H0.at hin (by rw [own_clamp hi2]; exact hv)
  exact Go.st (fun t kk => X.caload hx (j := Int32.ofNat i) (v := w) (by rw [hT]; exact A.1) (State.isArrayOf_alike hZ.alike A.2.1) A.2.2 hin hat (g := mkF m pc Ls (.int (Int32.ofNat i) :: .ref a :: rest)) rfl rfl hd t kk) g
theorem Go.baloadN (X : Stand p l e R s m args below meth c T locs cells slots) (hx : p.tables.exec = Jvm.exec) (hZ : Z.Warmed39 s.vm) (hT : T.heap = h) (F : Arv Z h a k .byte N vs dv) (hi : i < N.toNatClampNeg) (hi2 : i < 2147483648) (hv : vs.getD i dv = w) (hd : decode c.code pc = .ok (.baload, 1))
    (g : Go p e below Φ (T.setTop (mkF m (pc + 1) Ls (w :: rest)))) : Go p e below Φ (T.setTop (mkF m pc Ls (.int (Int32.ofNat i) :: .ref a :: rest))) := by
  obtain ⟨cl, A, -, S0, M0, H0, U0⟩ := F
  have hin : ¬ (Int32.ofNat i < 0 ∨ cl.slots.size ≤ (Int32.ofNat i).toNatClampNeg) := by
    rw [own_clamp hi2, S0]; rintro (q | q)
    · exact own_nn hi2 q
    · omega
  have hat : cl.slots[(Int32.ofNat i).toNatClampNeg]? = some w := H0.at hin (by rw [own_clamp hi2]; exact hv)
  exact Go.st (fun t kk => X.baloadBytes hx (j := Int32.ofNat i) (v := w) (by rw [hT]; exact A.1) (State.isArrayOf_alike hZ.alike A.2.1) A.2.2 hin hat (g := mkF m pc Ls (.int (Int32.ofNat i) :: .ref a :: rest)) rfl rfl hd t kk) g
theorem Go.alen (X : Stand p l e R s m args below meth c T locs cells slots) (hx : p.tables.exec = Jvm.exec) (hZ : Z.Warmed39 s.vm) (hT : T.heap = h) (F : Arv Z h a k ty N vs dv) (hd : decode c.code pc = .ok (.arraylength, 1))
    (g : Go p e below Φ (T.setTop (mkF m (pc + 1) Ls (.int N :: rest)))) : Go p e below Φ (T.setTop (mkF m pc Ls (.ref a :: rest))) := by
  obtain ⟨cl, A, -, S0, M0, H0, U0⟩ := F
  refine Go.st (fun t kk => X.arraylength hx (by rw [hT]; exact A.1) (State.isArrayOf_alike hZ.alike A.2.1) (g := mkF m pc Ls (.ref a :: rest)) rfl rfl hd t kk) ?_
  rw [len_of S0 M0]; exact g
theorem own_getD_set (vs : List Value) (i : Nat) (x dv : Value) (h : i < vs.length) : ∀ j, (vs.set i x).getD j dv = if j = i then x else vs.getD j dv := fun j => by
  simp only [List.getD_eq_getElem?_getD, List.getElem?_set]
  by_cases q : i = j
  · subst q; simp [h]
  · rw [if_neg q, if_neg (fun z => q z.symm)]
/-- bastore at a natural index -/
theorem Go.stBN {x : Int32} (X : Stand p l e R s m args below meth c T locs cells slots) (hx : p.tables.exec = Jvm.exec) (hZ : Z.Warmed39 s.vm) (hT : T.heap = h) (F : Arv Z h a k .byte N vs dv) (hi : i < N.toNatClampNeg) (hi2 : i < 2147483648) (hl : i < vs.length) (hd : decode c.code pc = .ok (.bastore, 1))
    (g : ∀ (T' : State) (h' : Heap), T'.heap = h' → Wr h h' a i (.int x.toInt8.toInt32) → Arv Z h' a k .byte N (vs.set i (.int x.toInt8.toInt32)) dv → Stand p l e R s m args below meth c T' (locs ++ [⟨a, i⟩]) cells slots → Go p e below Φ (T'.setTop (mkF m (pc + 1) Ls rest))) :
    Go p e below Φ (T.setTop (mkF m pc Ls (.int x :: .int (Int32.ofNat i) :: .ref a :: rest))) := by
  obtain ⟨cl, A, q0, S0, M0, H0, U0⟩ := F
  have hin : ¬ (Int32.ofNat i < 0 ∨ cl.slots.size ≤ (Int32.ofNat i).toNatClampNeg) := by
    rw [own_clamp hi2, S0]; rintro (q | q)
    · exact own_nn hi2 q
    · omega
  obtain ⟨T', h', X', hT', W', st⟩ := stB X hx hZ hT A (j := Int32.ofNat i) hin (g := mkF m pc Ls (.int x :: .int (Int32.ofNat i) :: .ref a :: rest)) rfl rfl hd
  have V' := Arv.set A q0 S0 M0 H0 U0 (fits_nar_byte x) W' i (own_clamp hi2) hl
  rw [own_clamp hi2] at W' X'
  exact Go.st st (g T' h' hT' W' V' X')
/-- castore at a natural index -/
theorem Go.stCN {x : Int32} (X : Stand p l e R s m args below meth c T locs cells slots) (hx : p.tables.exec = Jvm.exec) (hZ : Z.Warmed39 s.vm) (hT : T.heap = h) (F : Arv Z h a k .char N vs dv) (hi : i < N.toNatClampNeg) (hi2 : i < 2147483648) (hl : i < vs.length) (hd : decode c.code pc = .ok (.castore, 1))
    (g : ∀ (T' : State) (h' : Heap), T'.heap = h' → Wr h h' a i (.int (nar .char x)) → Arv Z h' a k .char N (vs.set i (.int (nar .char x))) dv → Stand p l e R s m args below meth c T' (locs ++ [⟨a, i⟩]) cells slots → Go p e below Φ (T'.setTop (mkF m (pc + 1) Ls rest))) :
    Go p e below Φ (T.setTop (mkF m pc Ls (.int x :: .int (Int32.ofNat i) :: .ref a :: rest))) := by
  obtain ⟨cl, A, q0, S0, M0, H0, U0⟩ := F
  have hin : ¬ (Int32.ofNat i < 0 ∨ cl.slots.size ≤ (Int32.ofNat i).toNatClampNeg) := by
    rw [own_clamp hi2, S0]; rintro (q | q)
    · exact own_nn hi2 q
    · omega
  obtain ⟨T', h', X', hT', W', st⟩ := stC X hx hZ hT A (j := Int32.ofNat i) hin (g := mkF m pc Ls (.int x :: .int (Int32.ofNat i) :: .ref a :: rest)) rfl rfl hd
  have V' := Arv.set A q0 S0 M0 H0 U0 (fits_nar_char x) W' i (own_clamp hi2) hl
  rw [own_clamp hi2] at W' X'
  exact Go.st st (g T' h' hT' W' V' X')
/-- newarray of n components -/
theorem Go.newA {aty : ArrayType} {n cap : Nat} (X : Stand p l e R s m args below meth c T locs cells slots) (hx : p.tables.exec = Jvm.exec) (hZ : Z.Warmed39 s.vm) (hT : T.heap = h) (w : (Cond.arrayClass (newarray.typeOf aty)).before a0 Z = true) (hd : decode c.code pc = .ok (.newarray aty, 2))
    (hn : n < 2147483648) (hcap : n ≤ cap) (hb : cap * 8 ≤ 536870912) (hc : cells + 1 ≤ R.cells) (hl : slots + cap ≤ R.slots)
    (g : ∀ (b : Addr) (T' : State) (h' : Heap) (kb : ClassId), b = h.size → T'.heap = h' → Ext h h' → Arv Z h' b kb (newarray.typeOf aty) (Int32.ofNat n) [] (defaultValue (newarray.typeOf aty)) → Stand p l e R s m args below meth c T' locs (cells + 1) (slots + cap) → Go p e below Φ (T'.setTop (mkF m (pc + 2) Ls (.ref b :: rest)))) :
    Go p e below Φ (T.setTop (mkF m pc Ls (.int (Int32.ofNat n) :: rest))) := by
  obtain ⟨T', h', kb, X', hT', E', A', st⟩ := newP X hx hZ w hT (g := mkF m pc Ls (.int (Int32.ofNat n) :: rest)) rfl hd rfl (own_nn hn) (cap := cap) (by rw [own_clamp hn]; exact hcap) hb hc hl
  exact Go.st st (g _ T' h' kb rfl hT' E' (Arv.new A' (own_nn hn)) X')
end G
end Jvm.Own
/- laws to paste: Road.eqW, Road.codOf, Road.wide_lo, Road.wide_hi, pair_says, shr0 (cut by pick.py; bodies as the Statement names them) -/
namespace Jvm.Pilot.@@N@@
namespace StrChars
open Jvm Sem ClassFile Op Lib Jvm.Stand Jvm.Free.XT Jvm.Free.ALB Jvm.Free.JM Jvm.Free
open Jvm.Lib.Cold (StaticIs)
/-- a char array whose places are chars -/
def Ch (a : Addr) (A : Cell) (U : State) : Prop := Arr .char a A U ∧ Typed .char A
theorem Ch.mv {a : Addr} {A : Cell} {U U' : State} (h : Ch a A U) (hal : U.vm.Alike U'.vm) (hh : U'.heap = U.heap) : Ch a A U' := ⟨h.1.mv hal hh, h.2⟩
theorem Ch.keep {a : Addr} {A : Cell} {U U' : State} (h : Ch a A U) (hal : U.vm.Alike U'.vm) (hk : U'.heap[a]? = some A) : Ch a A U' := ⟨h.1.keep hal hk, h.2⟩
/-- what place i of a char[]'s cell holds -/
def cv (A : Cell) (i : Nat) : Int32 := match A.slots[i]? with | some (.int x) => x | _ => 0
theorem Ch.get {a : Addr} {A : Cell} {U : State} (h : Ch a A U) {i : Nat} (hi : i < A.slots.size) : A.slots[i]? = some (.int (cv A i)) := by
  have e := Array.getElem?_eq_getElem hi
  have f := h.2 i _ e
  unfold cv; rw [e]
  generalize A.slots[i] = v at f
  cases v <;> simp [fits] at f ⊢
/-- the byte that i2b leaves of a char -/
def lo8 (x : Int32) : Int32 := x.toInt8.toInt32
theorem fits_lo8 (y : Int32) : fits .byte (.int (lo8 y)) = true := by
  have h1 := y.toInt8.le_toInt
  have h2 := y.toInt8.toInt_lt
  simp only [lo8, fits, Bool.and_eq_true, decide_eq_true_eq, Int32.le_iff_toInt_le, Int8.toInt_toInt32, show (-128 : Int32).toInt = -128 from by decide, show (127 : Int32).toInt = 127 from by decide]
  omega
/-- A' is A but that each place j of lo .. hi - 1 holds f j -/
def Laid (A A' : Cell) (lo hi : Nat) (f : Nat → Value) : Prop := A'.cls = A.cls ∧ A'.vm = A.vm ∧ A'.slots.size = A.slots.size ∧ ∀ i, A'.slots[i]? = if lo ≤ i ∧ i < hi then some (f i) else A.slots[i]?
theorem Laid.zero (A : Cell) (lo : Nat) (f : Nat → Value) : Laid A A lo (lo + 0) f := ⟨rfl, rfl, rfl, fun i => by rw [if_neg (by omega)]⟩
theorem Laid.step {A Ak : Cell} {lo k : Nat} {f : Nat → Value} {v : Value} (h : Laid A Ak lo k f) (hlo : lo ≤ k) (hk : k < Ak.slots.size) (hv : v = f k) : Laid A (Ak.setSlot k v) lo (k + 1) f := by
  refine ⟨h.1, h.2.1, by simpa [Cell.setSlot] using h.2.2.1, fun i => ?_⟩
  by_cases e : k = i
  · subst e; rw [Cell.slots_setSlot_self v hk, if_pos (by omega), hv]
  · rw [Cell.slots_setSlot_ne v e, h.2.2.2 i]
    by_cases q : lo ≤ i ∧ i < k
    · rw [if_pos q, if_pos (by omega)]
    · rw [if_neg q, if_neg (by omega)]
def U16 : String := "java/lang/StringUTF16"
namespace Cmp5
def yN : MethodName := ⟨"java/lang/StringUTF16", "compress", "([CI[BII)I"⟩
abbrev yB : ByteArray := jdk_52_method_21_code
theorem d0 : decode yB 0 = .ok (.iconst 0, 1) := by decide +kernel
theorem d1 : decode yB 1 = .ok (.istore 5, 2) := by decide +kernel
theorem d3 : decode yB 3 = .ok (.iload 5, 2) := by decide +kernel
theorem d5 : decode yB 5 = .ok (.iload 4, 2) := by decide +kernel
theorem d7 : decode yB 7 = .ok (.if_icmp (.ge) 37, 3) := by decide +kernel
theorem d10 : decode yB 10 = .ok (.aload_n 0, 1) := by decide +kernel
theorem d11 : decode yB 11 = .ok (.iload_n 1, 1) := by decide +kernel
theorem d12 : decode yB 12 = .ok (.caload, 1) := by decide +kernel
theorem d13 : decode yB 13 = .ok (.istore 6, 2) := by decide +kernel
theorem d15 : decode yB 15 = .ok (.iload 6, 2) := by decide +kernel
theorem d17 : decode yB 17 = .ok (.sipush 255, 3) := by decide +kernel
theorem d20 : decode yB 20 = .ok (.if_icmp (.le) 6, 3) := by decide +kernel
theorem d26 : decode yB 26 = .ok (.aload_n 2, 1) := by decide +kernel
theorem d27 : decode yB 27 = .ok (.iload_n 3, 1) := by decide +kernel
theorem d28 : decode yB 28 = .ok (.iload 6, 2) := by decide +kernel
theorem d30 : decode yB 30 = .ok (.i2b, 1) := by decide +kernel
theorem d31 : decode yB 31 = .ok (.bastore, 1) := by decide +kernel
theorem d32 : decode yB 32 = .ok (.iinc 1 1, 3) := by decide +kernel
theorem d35 : decode yB 35 = .ok (.iinc 3 1, 3) := by decide +kernel
theorem d38 : decode yB 38 = .ok (.iinc 5 1, 3) := by decide +kernel
theorem d41 : decode yB 41 = .ok (.goto (-38), 3) := by decide +kernel
theorem d44 : decode yB 44 = .ok (.iload 4, 2) := by decide +kernel
theorem d46 : decode yB 46 = .ok (.ireturn, 1) := by decide +kernel
def site : List Cond := []
def tab : Cond := tabOf yN yB 7 (some .int) site
def P (b : Addr) (A : Cell) (d : Addr) (B : Cell) (o q len : Nat) (args : Array Value) (s : State) : Prop := args = #[.ref b, .int (Int32.ofNat o), .ref d, .int (Int32.ofNat q), .int (Int32.ofNat len)] ∧ Ch b A s ∧ Arr .byte d B s ∧ b ≠ d ∧ o + len ≤ A.slots.size ∧ q + len ≤ B.slots.size ∧ ∀ i, i < len → ¬ 255 < cv A (o + i)
def E (b : Addr) (A : Cell) (d : Addr) (B : Cell) (o q len : Nat) (r : Option Value) (s u : State) : Prop := r = some (.int (Int32.ofNat len)) ∧ ∃ B', Put d B' s u ∧ Laid B B' q (q + len) (fun j => Value.int (lo8 (cv A (o + (j - q)))))
/-- no char of the range above 255: len; the places written hold each char's low byte -/
theorem law (l : Launch) (b : Addr) (A : Cell) (d : Addr) (B : Cell) (o q len : Nat) : Law l yN 5 5 0 0 yB 7 (some .int) site (P b A d B o q len) (E b A d B o q len) (copyLocs d q len) 0 0 := by
  refine Law.of_walk (plainFor_of_name (by decide +kernel)) (by decide +kernel) (by decide +kernel) (by decide) (fun _ _ h => by rw [h.1]; rfl) (fun _ U U' hal hh h => ⟨h.1, h.2.1.mv hal hh, h.2.2.1.mv hal hh, h.2.2.2⟩) (fun r U U' V V' h1 hal h2 h => ⟨h.1, h.2.elim fun B' q => ⟨B', q.1.mv h1 h2, q.2⟩⟩) ?_
  intro p e s m args below meth c s₁ X0 hexec hbytes hml hret hlk hnm hown hh0 W hP
  obtain ⟨rfl, hA, hB, hne, l1, l2, hp⟩ := hP
  have c1 : Steps p.tables e below (s₁.setTop (entryFrame m #[.ref b, .int (Int32.ofNat o), .ref d, .int (Int32.ofNat q), .int (Int32.ofNat len)] 7)) (s₁.setTop (mkF m 0 #[.val (.ref b), .val (.int (Int32.ofNat o)), .val (.ref d), .val (.int (Int32.ofNat q)), .val (.int (Int32.ofNat len)), .unset, .unset] [])) := entry rfl
  have hA0 := hA.1.mv X0.warmed.alike hh0
  have hB0 := hB.mv X0.warmed.alike hh0
  have a31 := hA.1.2.2.2
  have c2 : Steps p.tables e below (s₁.setTop (entryFrame m #[.ref b, .int (Int32.ofNat o), .ref d, .int (Int32.ofNat q), .int (Int32.ofNat len)] 7)) (s₁.setTop (mkF m 3 #[.val (.ref b), .val (.int (Int32.ofNat o)), .val (.ref d), .val (.int (Int32.ofNat q)), .val (.int (Int32.ofNat len)), .val (.int 0), .unset] [])) := c1.trans (by
    refine iconstV X0.here hexec rfl 0 (hb hbytes d0) (by decide) ?_
    refine XS.istore X0.here hexec rfl (hb hbytes d1) rfl rfl ?_
    exact Steps.refl _)
  have loop : ∀ (r i : Nat), i + r = len → ∀ (z : Slot), (z = .unset ∨ ∃ w, z = .val w ∧ w.category = 1) → ∀ (Tl : State) (Bk : Cell), Stand p l e { frames := 0, locals := 0, cells := 0, slots := 0 } s m #[.ref b, .int (Int32.ofNat o), .ref d, .int (Int32.ofNat q), .int (Int32.ofNat len)] below meth c Tl ([] ++ copyLocs d q i) 0 0 → Put d Bk s₁ Tl → Laid B Bk q (q + i) (fun j => Value.int (lo8 (cv A (o + (j - q))))) →
      Steps p.tables e below (s₁.setTop (entryFrame m #[.ref b, .int (Int32.ofNat o), .ref d, .int (Int32.ofNat q), .int (Int32.ofNat len)] 7)) (Tl.setTop (mkF m 3 #[.val (.ref b), .val (.int (Int32.ofNat (o + i))), .val (.ref d), .val (.int (Int32.ofNat (q + i))), .val (.int (Int32.ofNat len)), .val (.int (Int32.ofNat i)), z] [])) → ∃ (T' : State) (B' : Cell) (z' : Slot), Stand p l e { frames := 0, locals := 0, cells := 0, slots := 0 } s m #[.ref b, .int (Int32.ofNat o), .ref d, .int (Int32.ofNat q), .int (Int32.ofNat len)] below meth c T' ([] ++ copyLocs d q len) 0 0 ∧ Put d B' s₁ T' ∧ Laid B B' q (q + len) (fun j => Value.int (lo8 (cv A (o + (j - q))))) ∧
      Steps p.tables e below (s₁.setTop (entryFrame m #[.ref b, .int (Int32.ofNat o), .ref d, .int (Int32.ofNat q), .int (Int32.ofNat len)] 7)) (T'.setTop (mkF m 3 #[.val (.ref b), .val (.int (Int32.ofNat (o + len))), .val (.ref d), .val (.int (Int32.ofNat (q + len))), .val (.int (Int32.ofNat len)), .val (.int (Int32.ofNat len)), z'] [])) := by
    intro r
    induction r with
    | zero =>
      intro i hi z hz Tl Bk Xl pl fl cl
      have hil : i = len := by omega
      rw [hil] at Xl fl cl
      exact ⟨Tl, Bk, z, Xl, pl, fl, cl⟩
    | succ r ih =>
      intro i hi z hz Tl Bk Xl pl fl cl
      have all := X0.warmed.alike.symm.trans Xl.warmed.alike
      have hAl := hA0.keep all (pl.other hne hA0.1)
      have hBk := hB0.like all pl.1 fl.1 fl.2.1 fl.2.2.1
      have hlt : q + i < Bk.slots.size := by rw [fl.2.2.1]; omega
      have c3 : Steps p.tables e below (s₁.setTop (entryFrame m #[.ref b, .int (Int32.ofNat o), .ref d, .int (Int32.ofNat q), .int (Int32.ofNat len)] 7)) (Tl.setTop (mkF m 12 #[.val (.ref b), .val (.int (Int32.ofNat (o + i))), .val (.ref d), .val (.int (Int32.ofNat (q + i))), .val (.int (Int32.ofNat len)), .val (.int (Int32.ofNat i)), z] [.int (Int32.ofNat (o + i)), .ref b])) := cl.trans (by
        refine XS.iload Xl.here hexec rfl (hb hbytes d3) rfl ?_
        refine XS.iload Xl.here hexec rfl (hb hbytes d5) rfl ?_
        refine XS.icmpNo Xl.here hexec rfl (hb hbytes d7) rfl (ii_ge_f (lt32 (by omega) (by omega))) ?_
        refine XS.aloadN Xl.here hexec rfl (hb hbytes d10) rfl rfl ?_
        refine XS.iloadN Xl.here hexec rfl (hb hbytes d11) rfl ?_
        exact Steps.refl _)
      have c4 : Steps p.tables e below (s₁.setTop (entryFrame m #[.ref b, .int (Int32.ofNat o), .ref d, .int (Int32.ofNat q), .int (Int32.ofNat len)] 7)) (Tl.setTop (mkF m 13 #[.val (.ref b), .val (.int (Int32.ofNat (o + i))), .val (.ref d), .val (.int (Int32.ofNat (q + i))), .val (.int (Int32.ofNat len)), .val (.int (Int32.ofNat i)), z] [.int (cv A (o + i))])) := c3.trans (by
        refine Xl.aget hexec hAl rfl (hA.get (i := o + i) (by omega)) rfl rfl (hb hbytes d12) ?_
        exact Steps.refl _)
      have c5 : Steps p.tables e below (s₁.setTop (entryFrame m #[.ref b, .int (Int32.ofNat o), .ref d, .int (Int32.ofNat q), .int (Int32.ofNat len)] 7)) (Tl.setTop (mkF m 15 #[.val (.ref b), .val (.int (Int32.ofNat (o + i))), .val (.ref d), .val (.int (Int32.ofNat (q + i))), .val (.int (Int32.ofNat len)), .val (.int (Int32.ofNat i)), .val (.int (cv A (o + i)))] [])) := c4.trans (by
        refine XS.istoreS Xl.here hexec rfl (hb hbytes d13) rfl rfl hz ?_
        exact Steps.refl _)
      have c6 : Steps p.tables e below (s₁.setTop (entryFrame m #[.ref b, .int (Int32.ofNat o), .ref d, .int (Int32.ofNat q), .int (Int32.ofNat len)] 7)) (Tl.setTop (mkF m 31 #[.val (.ref b), .val (.int (Int32.ofNat (o + i))), .val (.ref d), .val (.int (Int32.ofNat (q + i))), .val (.int (Int32.ofNat len)), .val (.int (Int32.ofNat i)), .val (.int (cv A (o + i)))] [.int (lo8 (cv A (o + i))), .int (Int32.ofNat (q + i)), .ref d])) := c5.trans (by
        refine XS.iload Xl.here hexec rfl (hb hbytes d15) rfl ?_
        refine sipushV Xl.here hexec rfl 255 (hb hbytes d17) (by decide) ?_
        refine XS.icmpYes Xl.here hexec rfl (pc0 := 20) rfl (hb hbytes d20) rfl (ii_le_t (hp i (by omega))) (by decide) rfl ?_
        refine XS.aloadN Xl.here hexec rfl (hb hbytes d26) rfl rfl ?_
        refine XS.iloadN Xl.here hexec rfl (hb hbytes d27) rfl ?_
        refine XS.iload Xl.here hexec rfl (hb hbytes d28) rfl ?_
        refine i2b Xl.here hexec rfl (hb hbytes d30) rfl ?_
        exact Steps.refl _)
      obtain ⟨T7, X7, p7, st7⟩ := Xl.aput hexec hBk rfl hlt rfl (fits_lo8 (cv A (o + i))) (g := (mkF m 31 #[.val (.ref b), .val (.int (Int32.ofNat (o + i))), .val (.ref d), .val (.int (Int32.ofNat (q + i))), .val (.int (Int32.ofNat len)), .val (.int (Int32.ofNat i)), .val (.int (cv A (o + i)))] [.int (lo8 (cv A (o + i))), .int (Int32.ofNat (q + i)), .ref d])) rfl (rest := []) rfl (hb hbytes d31)
      have c8 : Steps p.tables e below (s₁.setTop (entryFrame m #[.ref b, .int (Int32.ofNat o), .ref d, .int (Int32.ofNat q), .int (Int32.ofNat len)] 7)) (T7.setTop (mkF m 32 #[.val (.ref b), .val (.int (Int32.ofNat (o + i))), .val (.ref d), .val (.int (Int32.ofNat (q + i))), .val (.int (Int32.ofNat len)), .val (.int (Int32.ofNat i)), .val (.int (cv A (o + i)))] [])) := c6.trans (st7 _ (Steps.refl _))
      have c9 : Steps p.tables e below (s₁.setTop (entryFrame m #[.ref b, .int (Int32.ofNat o), .ref d, .int (Int32.ofNat q), .int (Int32.ofNat len)] 7)) (T7.setTop (mkF m 3 #[.val (.ref b), .val (.int (Int32.ofNat (o + i) + 1)), .val (.ref d), .val (.int (Int32.ofNat (q + i) + 1)), .val (.int (Int32.ofNat len)), .val (.int (Int32.ofNat i + 1)), .val (.int (cv A (o + i)))] [])) := c8.trans (by
        refine iincV X7.here hexec rfl 1 (hb hbytes d32) (by decide) rfl rfl ?_
        refine iincV X7.here hexec rfl 1 (hb hbytes d35) (by decide) rfl rfl ?_
        refine iincV X7.here hexec rfl 1 (hb hbytes d38) (by decide) rfl rfl ?_
        refine XS.goto X7.here hexec rfl (pc0 := 41) rfl (hb hbytes d41) (by decide) rfl ?_
        exact Steps.refl _)
      have c10 : Steps p.tables e below (s₁.setTop (entryFrame m #[.ref b, .int (Int32.ofNat o), .ref d, .int (Int32.ofNat q), .int (Int32.ofNat len)] 7)) (T7.setTop (mkF m 3 #[.val (.ref b), .val (.int (Int32.ofNat (o + (i + 1)))), .val (.ref d), .val (.int (Int32.ofNat (q + (i + 1)))), .val (.int (Int32.ofNat len)), .val (.int (Int32.ofNat (i + 1))), .val (.int (cv A (o + i)))] [])) := by
        have := c9
        rw [succ32, succ32, succ32] at this
        exact this
      exact ih (i + 1) (by omega) _ (Or.inr ⟨_, rfl, rfl⟩) T7 _ (by rw [copyLocs_step, ← List.append_assoc]; exact X7) (pl.trans p7) (fl.step (by omega) hlt (by simp)) c10
  obtain ⟨T9, B9, z9, X9, p9, f9, g9⟩ := loop len 0 (by omega) .unset (Or.inl rfl) s₁ B (by simpa [copyLocs] using X0) ⟨hB0.1, fun _ _ => rfl, rfl⟩ (Laid.zero _ _ _) c2
  have c11 : Steps p.tables e below (s₁.setTop (entryFrame m #[.ref b, .int (Int32.ofNat o), .ref d, .int (Int32.ofNat q), .int (Int32.ofNat len)] 7)) (T9.setTop (mkF m 46 #[.val (.ref b), .val (.int (Int32.ofNat (o + len))), .val (.ref d), .val (.int (Int32.ofNat (q + len))), .val (.int (Int32.ofNat len)), .val (.int (Int32.ofNat len)), z9] [.int (Int32.ofNat len)])) := g9.trans (by
    refine XS.iload X9.here hexec rfl (hb hbytes d3) rfl ?_
    refine XS.iload X9.here hexec rfl (hb hbytes d5) rfl ?_
    refine XS.icmpYes X9.here hexec rfl (pc0 := 7) rfl (hb hbytes d7) rfl (ii_ge_t (nlt32 (by omega) (Nat.le_refl _))) (by decide) rfl ?_
    refine XS.iload X9.here hexec rfl (hb hbytes d44) rfl ?_
    exact Steps.refl _)
  exact ⟨T9, some (.int (Int32.ofNat len)), _, _, _, X9, by simp, rfl, rfl, (fun h => by cases h), ⟨rfl, B9, p9.from hh0, f9⟩, fun fs hl => c11.trans (X9.ireturnOut hexec hret rfl (Or.inl rfl) (hb hbytes d46) hl)⟩
end Cmp5
namespace Cmp3
def yN : MethodName := ⟨"java/lang/StringUTF16", "compress", "([CII)[B"⟩
abbrev yB : ByteArray := jdk_52_method_16_code
theorem d0 : decode yB 0 = .ok (.iload_n 2, 1) := by decide +kernel
theorem d1 : decode yB 1 = .ok (.newarray .byte, 2) := by decide +kernel
theorem d3 : decode yB 3 = .ok (.astore_n 3, 1) := by decide +kernel
theorem d4 : decode yB 4 = .ok (.aload_n 0, 1) := by decide +kernel
theorem d5 : decode yB 5 = .ok (.iload_n 1, 1) := by decide +kernel
theorem d6 : decode yB 6 = .ok (.aload_n 3, 1) := by decide +kernel
theorem d7 : decode yB 7 = .ok (.iconst 0, 1) := by decide +kernel
theorem d8 : decode yB 8 = .ok (.iload_n 2, 1) := by decide +kernel
theorem d9 : decode yB 9 = .ok (.invokestatic 115, 3) := by decide +kernel
theorem d12 : decode yB 12 = .ok (.istore 4, 2) := by decide +kernel
theorem d14 : decode yB 14 = .ok (.iload 4, 2) := by decide +kernel
theorem d16 : decode yB 16 = .ok (.iload_n 2, 1) := by decide +kernel
theorem d17 : decode yB 17 = .ok (.if_icmp (.eq) 40, 3) := by decide +kernel
theorem d57 : decode yB 57 = .ok (.aload_n 3, 1) := by decide +kernel
theorem d58 : decode yB 58 = .ok (.areturn, 1) := by decide +kernel
def site : List Cond := [.arrayClass .byte, Cmp5.tab] ++ staticW U16 115 Cmp5.yN
def tab : Cond := tabOf yN yB 6 (some (.array .byte)) site
def P (b : Addr) (A : Cell) (o len : Nat) (args : Array Value) (s : State) : Prop := args = #[.ref b, .int (Int32.ofNat o), .int (Int32.ofNat len)] ∧ Ch b A s ∧ o + len ≤ A.slots.size ∧ len ≤ 536870912 ∧ ∀ i, i < len → ¬ 255 < cv A (o + i)
def E (b : Addr) (A : Cell) (o len : Nat) (r : Option Value) (s u : State) : Prop := NewArr .byte "[B" len (fun j => .int (lo8 (cv A (o + j)))) r s u ∧ u.heap.size = s.heap.size + 1
/-- no char of the range above 255: a new byte[] of their low bytes -/
theorem law (l : Launch) (b : Addr) (A : Cell) (o len : Nat) : Law l yN 3 3 1 18 yB 6 (some (.array .byte)) site (P b A o len) (E b A o len) [] 1 len := by
  refine Law.of_walk (plainFor_of_name (by decide +kernel)) (by decide +kernel) (by decide +kernel) (by decide) (fun _ _ h => by rw [h.1]; rfl) (fun _ U U' hal hh h => ⟨h.1, h.2.1.mv hal hh, h.2.2⟩) (fun r U U' V V' h1 hal h2 h => ⟨NewArr.mv r U U' V V' h1 hal h2 h.1, by rw [h1, h2]; exact h.2⟩) ?_
  intro p e s m args below meth c s₁ X0 hexec hbytes hml hret hlk hnm hown hh0 W hP
  obtain ⟨rfl, hA, l1, l2, hp⟩ := hP
  have a31 := hA.1.2.2.2
  have c1 : Steps p.tables e below (s₁.setTop (entryFrame m #[.ref b, .int (Int32.ofNat o), .int (Int32.ofNat len)] 6)) (s₁.setTop (mkF m 0 #[.val (.ref b), .val (.int (Int32.ofNat o)), .val (.int (Int32.ofNat len)), .unset, .unset, .unset] [])) := entry rfl
  have c2 : Steps p.tables e below (s₁.setTop (entryFrame m #[.ref b, .int (Int32.ofNat o), .int (Int32.ofNat len)] 6)) (s₁.setTop (mkF m 1 #[.val (.ref b), .val (.int (Int32.ofNat o)), .val (.int (Int32.ofNat len)), .unset, .unset, .unset] [.int (Int32.ofNat len)])) := c1.trans (by
    refine XS.iloadN X0.here hexec rfl (hb hbytes d0) rfl ?_
    exact Steps.refl _)
  obtain ⟨T3, B3, X3, ba3, bs3, bv3, bh3, bf3, st3⟩ := X0.anew hexec (atype := .byte) (wk W (.arrayClass .byte)) rfl (by show len * 1 ≤ _; omega) (by omega) (g := (mkF m 1 #[.val (.ref b), .val (.int (Int32.ofNat o)), .val (.int (Int32.ofNat len)), .unset, .unset, .unset] [.int (Int32.ofNat len)])) rfl (hb hbytes d1) (rest := []) rfl (Nat.le_refl _) (by show 0 + len ≤ len; omega)
  rw [hh0] at ba3 st3
  have kp3 : XT.Kept s T3 := (XT.Kept.of_eq hh0).push bh3
  have hA3 := hA.keep X3.warmed.alike (kp3 _ _ hA.1.1)
  have hne : b ≠ s.heap.size := hA.1.ne
  have c4 : Steps p.tables e below (s₁.setTop (entryFrame m #[.ref b, .int (Int32.ofNat o), .int (Int32.ofNat len)] 6)) (T3.setTop (mkF m 3 #[.val (.ref b), .val (.int (Int32.ofNat o)), .val (.int (Int32.ofNat len)), .unset, .unset, .unset] [.ref s.heap.size])) := c2.trans (st3 _ (Steps.refl _))
  have c5 : Steps p.tables e below (s₁.setTop (entryFrame m #[.ref b, .int (Int32.ofNat o), .int (Int32.ofNat len)] 6)) (T3.setTop (mkF m 9 #[.val (.ref b), .val (.int (Int32.ofNat o)), .val (.int (Int32.ofNat len)), .val (.ref s.heap.size), .unset, .unset] [.int (Int32.ofNat len), .int 0, .ref s.heap.size, .int (Int32.ofNat o), .ref b])) := c4.trans (by
    refine XS.astoreN X3.here hexec rfl (hb hbytes d3) rfl rfl rfl ?_
    refine XS.aloadN X3.here hexec rfl (hb hbytes d4) rfl rfl ?_
    refine XS.iloadN X3.here hexec rfl (hb hbytes d5) rfl ?_
    refine XS.aloadN X3.here hexec rfl (hb hbytes d6) rfl rfl ?_
    refine iconstV X3.here hexec rfl 0 (hb hbytes d7) (by decide) ?_
    refine XS.iloadN X3.here hexec rfl (hb hbytes d8) rfl ?_
    exact Steps.refl _)
  obtain ⟨v6, T6, X6, E6, g6⟩ := X3.callS hexec (Cmp5.law l b A s.heap.size B3 o 0 len) hown (wks W (staticW U16 115 Cmp5.yN)) (wk W Cmp5.tab) (W := 0) (Nat.le_of_ble_eq_true rfl) (Nat.le_of_ble_eq_true rfl) (Nat.le_refl _) (by show 0 + len + 0 ≤ len; omega) (g := (mkF m 9 #[.val (.ref b), .val (.int (Int32.ofNat o)), .val (.int (Int32.ofNat len)), .val (.ref s.heap.size), .unset, .unset] [.int (Int32.ofNat len), .int (Int32.ofNat 0), .ref s.heap.size, .int (Int32.ofNat o), .ref b])) rfl (by rw [hml]; rfl) c5 (argsL := [.ref b, .int (Int32.ofNat o), .ref s.heap.size, .int (Int32.ofNat 0), .int (Int32.ofNat len)]) (rest := []) rfl rfl (by show 2 * 0 + 0 ≤ _; decide) (hb hbytes d9) (⟨rfl, hA3, ba3, hne, l1, by rw [bs3]; simp, hp⟩)
  obtain ⟨rfl, B6, p6, f6⟩ := E6
  have c7 : Steps p.tables e below (s₁.setTop (entryFrame m #[.ref b, .int (Int32.ofNat o), .int (Int32.ofNat len)] 6)) (T6.setTop (mkF m 12 #[.val (.ref b), .val (.int (Int32.ofNat o)), .val (.int (Int32.ofNat len)), .val (.ref s.heap.size), .unset, .unset] [.int (Int32.ofNat len)])) := g6
  have c8 : Steps p.tables e below (s₁.setTop (entryFrame m #[.ref b, .int (Int32.ofNat o), .int (Int32.ofNat len)] 6)) (T6.setTop (mkF m 58 #[.val (.ref b), .val (.int (Int32.ofNat o)), .val (.int (Int32.ofNat len)), .val (.ref s.heap.size), .val (.int (Int32.ofNat len)), .unset] [.ref s.heap.size])) := c7.trans (by
    refine XS.istore X6.here hexec rfl (hb hbytes d12) rfl rfl ?_
    refine XS.iload X6.here hexec rfl (hb hbytes d14) rfl ?_
    refine XS.iloadN X6.here hexec rfl (hb hbytes d16) rfl ?_
    refine XS.icmpYes X6.here hexec rfl (pc0 := 17) rfl (hb hbytes d17) rfl (ii_eq_t rfl) (by decide) rfl ?_
    refine XS.aloadN X6.here hexec rfl (hb hbytes d57) rfl rfl ?_
    exact Steps.refl _)
  have X8 := X6.wide (L' := []) (cells' := 1) (slots' := len) (fun x hx hlt => by
    simp only [List.nil_append, copyLocs, List.mem_map, List.mem_range] at hx
    obtain ⟨i, -, rfl⟩ := hx
    exact absurd hlt (Nat.lt_irrefl _)) (Nat.le_refl _) (by omega)
  exact ⟨T6, some (.ref s.heap.size), _, _, _, X8, rfl, rfl, rfl, (fun h => by cases h), ⟨⟨rfl, B6, ba3.like (X3.warmed.alike.symm.trans X6.warmed.alike) p6.1 f6.1 f6.2.1 f6.2.2.1, f6.2.1.trans bv3, by rw [X6.warmed.alike.findClass, f6.1]; exact bf3, by rw [f6.2.2.1, bs3]; simp, fun j hj => by rw [f6.2.2.2 j, if_pos (by omega)]; rfl, kp3.put p6 (Nat.le_refl _)⟩, by rw [p6.2.2, bh3, hh0]; simp⟩, fun fs hl => c8.trans (X8.areturnOut hexec rfl hret rfl (hb hbytes d58) hl)⟩
end Cmp3
namespace CodL
def yN : MethodName := ⟨"java/lang/StringUTF16", "coderFromArrayLen", "([BI)B"⟩
abbrev yB : ByteArray := jdk_52_method_15_code
theorem d0 : decode yB 0 = .ok (.iload_n 1, 1) := by decide +kernel
theorem d1 : decode yB 1 = .ok (.aload_n 0, 1) := by decide +kernel
theorem d2 : decode yB 2 = .ok (.arraylength, 1) := by decide +kernel
theorem d3 : decode yB 3 = .ok (.isub, 1) := by decide +kernel
theorem d4 : decode yB 4 = .ok (.bipush 31, 2) := by decide +kernel
theorem d6 : decode yB 6 = .ok (.iushr, 1) := by decide +kernel
theorem d7 : decode yB 7 = .ok (.i2b, 1) := by decide +kernel
theorem d8 : decode yB 8 = .ok (.ireturn, 1) := by decide +kernel
def site : List Cond := []
def tab : Cond := tabOf yN yB 2 (some .byte) site
def P (d : Addr) (B : Cell) (args : Array Value) (s : State) : Prop := args = #[.ref d, .int (Int32.ofNat B.slots.size)] ∧ Arr .byte d B s
def E (r : Option Value) (s u : State) : Prop := XT.PureE (some (.int 0)) r s u
/-- an array as long as the number of chars: LATIN1 -/
theorem law (l : Launch) (d : Addr) (B : Cell) : Law l yN 2 2 0 0 yB 2 (some .byte) site (P d B) E [] 0 0 := by
  refine Law.of_walk (plainFor_of_name (by decide +kernel)) (by decide +kernel) (by decide +kernel) (by decide) (fun _ _ h => by rw [h.1]; rfl) (fun _ U U' hal hh h => ⟨h.1, h.2.mv hal hh⟩) (fun r U U' V V' h1 hal h2 h => XT.PureE.mv r U U' V V' h1 hal h2 h) ?_
  intro p e s m args below meth c s₁ X0 hexec hbytes hml hret hlk hnm hown hh0 W hP
  obtain ⟨rfl, hB⟩ := hP
  have hB0 := hB.mv X0.warmed.alike hh0
  have c1 : Steps p.tables e below (s₁.setTop (entryFrame m #[.ref d, .int (Int32.ofNat B.slots.size)] 2)) (s₁.setTop (mkF m 0 #[.val (.ref d), .val (.int (Int32.ofNat B.slots.size))] [])) := entry rfl
  have c2 : Steps p.tables e below (s₁.setTop (entryFrame m #[.ref d, .int (Int32.ofNat B.slots.size)] 2)) (s₁.setTop (mkF m 2 #[.val (.ref d), .val (.int (Int32.ofNat B.slots.size))] [.ref d, .int (Int32.ofNat B.slots.size)])) := c1.trans (by
    refine XS.iloadN X0.here hexec rfl (hb hbytes d0) rfl ?_
    refine XS.aloadN X0.here hexec rfl (hb hbytes d1) rfl rfl ?_
    exact Steps.refl _)
  have c3 : Steps p.tables e below (s₁.setTop (entryFrame m #[.ref d, .int (Int32.ofNat B.slots.size)] 2)) (s₁.setTop (mkF m 8 #[.val (.ref d), .val (.int (Int32.ofNat B.slots.size))] [.int (lo8 (ushr (Int32.ofNat B.slots.size - Int32.ofNat B.slots.size) 31))])) := c2.trans (by
    refine X0.alen hexec hB0 rfl rfl (hb hbytes d2) ?_
    refine XS.isub X0.here hexec rfl (hb hbytes d3) rfl ?_
    refine bipushV X0.here hexec rfl 31 (hb hbytes d4) (by decide) ?_
    refine iushr X0.here hexec rfl (hb hbytes d6) rfl ?_
    refine i2b X0.here hexec rfl (hb hbytes d7) rfl ?_
    exact Steps.refl _)
  have e0 : lo8 (ushr (Int32.ofNat B.slots.size - Int32.ofNat B.slots.size) 31) = 0 := by rw [Int32.sub_self]; decide
  rw [e0] at c3
  exact ⟨s₁, some (.int 0), _, _, _, X0, rfl, rfl, rfl, (fun h => by cases h), ⟨rfl, hh0⟩, fun fs hl => c3.trans (X0.ireturnOut hexec hret rfl (Or.inr (Or.inr (Or.inl rfl))) (hb hbytes d8) hl)⟩
end CodL
/-- the String at a is Latin-1 over a new byte[] (the heap's one new cell): the low bytes of the len chars of A from o on; every cell but a is kept -/
def Got (a : Addr) (D : Cell) (fV fC : Field) (A : Cell) (o len : Nat) (r : Option Value) (s u : State) : Prop := r = none ∧ ∃ D' V : Cell, Blank "java/lang/String" a D' u ∧ Same D D' [fV.slot, fC.slot] ∧ D'.slots[fV.slot]? = some (.ref s.heap.size) ∧ D'.slots[fC.slot]? = some (.int 0) ∧ Arr .byte s.heap.size V u ∧ V.vm = .none ∧ u.vm.findClass "[B" = some V.cls ∧ V.slots.size = len ∧ (∀ j, j < len → V.slots[j]? = some (.int (lo8 (cv A (o + j))))) ∧ (∀ (y : Addr) (c : Cell), y ≠ a → s.heap[y]? = some c → u.heap[y]? = some c) ∧ u.heap.size = s.heap.size + 1
theorem Got.mv {a : Addr} {D A : Cell} {fV fC : Field} {o len : Nat} : ∀ r (U U' V V' : State), U'.heap = U.heap → V.vm.Alike V'.vm → V'.heap = V.heap → Got a D fV fC A o len r U V → Got a D fV fC A o len r U' V' :=
  fun r U U' V V' h1 hal h2 ⟨e0, D', X, a1, a2, a3, a4, a5, a6, a7, a8, a9, a10, a11⟩ => ⟨e0, D', X, a1.mv hal h2, a2, by rw [h1]; exact a3, a4, by rw [h1]; exact a5.mv hal h2, a6, by rw [hal.findClass]; exact a7, a8, a9, by rw [h1, h2]; exact a10, by rw [h1, h2]; exact a11⟩
namespace New4
def yN : MethodName := ⟨"java/lang/String", "<init>", "([CIILjava/lang/Void;)V"⟩
abbrev yB : ByteArray := jdk_42_method_149_code
theorem d0 : decode yB 0 = .ok (.aload_n 0, 1) := by decide +kernel
theorem d1 : decode yB 1 = .ok (.invokespecial 1, 3) := by decide +kernel
theorem d4 : decode yB 4 = .ok (.iload_n 3, 1) := by decide +kernel
theorem d5 : decode yB 5 = .ok (.ifCond (.ne) 22, 3) := by decide +kernel
theorem d27 : decode yB 27 = .ok (.getstatic 38, 3) := by decide +kernel
theorem d30 : decode yB 30 = .ok (.ifCond (.eq) 28, 3) := by decide +kernel
theorem d33 : decode yB 33 = .ok (.aload_n 1, 1) := by decide +kernel
theorem d34 : decode yB 34 = .ok (.iload_n 2, 1) := by decide +kernel
theorem d35 : decode yB 35 = .ok (.iload_n 3, 1) := by decide +kernel
theorem d36 : decode yB 36 = .ok (.invokestatic 177, 3) := by decide +kernel
theorem d39 : decode yB 39 = .ok (.astore 5, 2) := by decide +kernel
theorem d41 : decode yB 41 = .ok (.aload_n 0, 1) := by decide +kernel
theorem d42 : decode yB 42 = .ok (.aload 5, 2) := by decide +kernel
theorem d44 : decode yB 44 = .ok (.iload_n 3, 1) := by decide +kernel
theorem d45 : decode yB 45 = .ok (.invokestatic 47, 3) := by decide +kernel
theorem d48 : decode yB 48 = .ok (.putfield 15, 3) := by decide +kernel
theorem d51 : decode yB 51 = .ok (.aload_n 0, 1) := by decide +kernel
theorem d52 : decode yB 52 = .ok (.aload 5, 2) := by decide +kernel
theorem d54 : decode yB 54 = .ok (.putfield 9, 3) := by decide +kernel
theorem d57 : decode yB 57 = .ok (.return_, 1) := by decide +kernel
def site : List Cond := [.fieldLink "java/lang/String" 38 "java/lang/String" "COMPACT_STRINGS" "Z", Cmp3.tab, CodL.tab, .laysFinal "java/lang/String" "java/lang/String" "value" "[B", .fieldLink "java/lang/String" 9 "java/lang/String" "value" "[B", .laysFinal "java/lang/String" "java/lang/String" "coder" "B", .fieldLink "java/lang/String" 15 "java/lang/String" "coder" "B"] ++ objW "java/lang/String" 1 ++ staticW "java/lang/String" 177 Cmp3.yN ++ staticW "java/lang/String" 47 CodL.yN
def tab : Cond := tabOf yN yB 6 none site
def P (a : Addr) (D : Cell) (fV fC : Field) (b : Addr) (A : Cell) (z : Int32) (o len : Nat) (args : Array Value) (s : State) : Prop := args = #[.ref a, .ref b, .int (Int32.ofNat o), .int (Int32.ofNat len), .null] ∧ Blank "java/lang/String" a D s ∧ Found "java/lang/String" "value" "[B" fV s ∧ Found "java/lang/String" "coder" "B" fC s ∧ Ch b A s ∧ StaticIs s "java/lang/String" "COMPACT_STRINGS" "Z" (.int z) ∧ ¬ z = 0 ∧ 0 < len ∧ o + len ≤ A.slots.size ∧ len ≤ 536870912 ∧ ∀ i, i < len → ¬ 255 < cv A (o + i)
def E (a : Addr) (D : Cell) (fV fC : Field) (A : Cell) (o len : Nat) (r : Option Value) (s u : State) : Prop := Got a D fV fC A o len r s u
/-- len > 0, no char of the range above 255: a Latin-1 String of their low bytes -/
theorem law (l : Launch) (a : Addr) (D : Cell) (fV fC : Field) (b : Addr) (A : Cell) (z : Int32) (o len : Nat) : Law l yN 5 4 2 35 yB 6 none site (P a D fV fC b A z o len) (E a D fV fC A o len) [⟨a, fC.slot⟩, ⟨a, fV.slot⟩] 1 len := by
  refine Law.of_walk (plainFor_of_name (by decide +kernel)) (by decide +kernel) (by decide +kernel) (by decide) (fun _ _ h => by rw [h.1]; rfl) (fun _ U U' hal hh h => ⟨h.1, h.2.1.mv hal hh, h.2.2.1.al hal, h.2.2.2.1.al hal, h.2.2.2.2.1.mv hal hh, h.2.2.2.2.2.1.there hal hh, h.2.2.2.2.2.2⟩) (fun r U U' V V' h1 hal h2 h => Got.mv r U U' V V' h1 hal h2 h) ?_
  intro p e s m args below meth c s₁ X0 hexec hbytes hml hret hlk hnm hown hh0 W hP
  obtain ⟨rfl, hB, f1, f2, hA, s1, hz, l0, l1, l2, hp⟩ := hP
  have a31 := hA.1.2.2.2
  have c1 : Steps p.tables e below (s₁.setTop (entryFrame m #[.ref a, .ref b, .int (Int32.ofNat o), .int (Int32.ofNat len), .null] 6)) (s₁.setTop (mkF m 0 #[.val (.ref a), .val (.ref b), .val (.int (Int32.ofNat o)), .val (.int (Int32.ofNat len)), .val .null, .unset] [])) := entry rfl
  have c2 : Steps p.tables e below (s₁.setTop (entryFrame m #[.ref a, .ref b, .int (Int32.ofNat o), .int (Int32.ofNat len), .null] 6)) (s₁.setTop (mkF m 1 #[.val (.ref a), .val (.ref b), .val (.int (Int32.ofNat o)), .val (.int (Int32.ofNat len)), .val .null, .unset] [.ref a])) := c1.trans (by
    refine XS.aloadN X0.here hexec rfl (hb hbytes d0) rfl rfl ?_
    exact Steps.refl _)
  obtain ⟨T3, X3, q3, st3⟩ := X0.oinit hexec hown (wks W (objW "java/lang/String" 1)) (g := (mkF m 1 #[.val (.ref a), .val (.ref b), .val (.int (Int32.ofNat o)), .val (.int (Int32.ofNat len)), .val .null, .unset] [.ref a])) rfl (by rw [hml]; rfl) (rest := []) rfl (hb hbytes d1) (W := 0) (by show 2 * 0 + 0 ≤ _; decide) (Nat.le_of_ble_eq_true rfl) (Nat.le_of_ble_eq_true rfl)
  have hh3 := q3.trans hh0
  have c4 : Steps p.tables e below (s₁.setTop (entryFrame m #[.ref a, .ref b, .int (Int32.ofNat o), .int (Int32.ofNat len), .null] 6)) (T3.setTop (mkF m 27 #[.val (.ref a), .val (.ref b), .val (.int (Int32.ofNat o)), .val (.int (Int32.ofNat len)), .val .null, .unset] [])) := (c2.trans (st3 _ (Steps.refl _))).trans (by
    refine XS.iloadN X3.here hexec rfl (hb hbytes d4) rfl ?_
    refine XS.ifYes X3.here hexec rfl (pc0 := 5) rfl (hb hbytes d5) rfl (i0_ne_t (nz32 (by omega) l0)) (by decide) rfl ?_
    exact Steps.refl _)
  obtain ⟨T5, X5, q5, st5⟩ := X3.sget hexec hown (wk W (.fieldLink "java/lang/String" 38 "java/lang/String" "COMPACT_STRINGS" "Z")) s1 (fun _ _ h => by rw [hh3]; exact h) (g := (mkF m 27 #[.val (.ref a), .val (.ref b), .val (.int (Int32.ofNat o)), .val (.int (Int32.ofNat len)), .val .null, .unset] [])) rfl (hb hbytes d27)
  have hh5 := q5.trans hh3
  have c6 : Steps p.tables e below (s₁.setTop (entryFrame m #[.ref a, .ref b, .int (Int32.ofNat o), .int (Int32.ofNat len), .null] 6)) (T5.setTop (mkF m 30 #[.val (.ref a), .val (.ref b), .val (.int (Int32.ofNat o)), .val (.int (Int32.ofNat len)), .val .null, .unset] [.int z])) := c4.trans (st5 _ (Steps.refl _))
  have c7 : Steps p.tables e below (s₁.setTop (entryFrame m #[.ref a, .ref b, .int (Int32.ofNat o), .int (Int32.ofNat len), .null] 6)) (T5.setTop (mkF m 36 #[.val (.ref a), .val (.ref b), .val (.int (Int32.ofNat o)), .val (.int (Int32.ofNat len)), .val .null, .unset] [.int (Int32.ofNat len), .int (Int32.ofNat o), .ref b])) := c6.trans (by
    refine XS.ifNo X5.here hexec rfl (hb hbytes d30) rfl (i0_eq_f hz) ?_
    refine XS.aloadN X5.here hexec rfl (hb hbytes d33) rfl rfl ?_
    refine XS.iloadN X5.here hexec rfl (hb hbytes d34) rfl ?_
    refine XS.iloadN X5.here hexec rfl (hb hbytes d35) rfl ?_
    exact Steps.refl _)
  obtain ⟨v8, T8, X8, E8, g8⟩ := X5.callS hexec (Cmp3.law l b A o len) hown (wks W (staticW "java/lang/String" 177 Cmp3.yN)) (wk W Cmp3.tab) (W := 0) (Nat.le_of_ble_eq_true rfl) (Nat.le_of_ble_eq_true rfl) (Nat.le_refl _) (by show 0 + len ≤ len; omega) (g := (mkF m 36 #[.val (.ref a), .val (.ref b), .val (.int (Int32.ofNat o)), .val (.int (Int32.ofNat len)), .val .null, .unset] [.int (Int32.ofNat len), .int (Int32.ofNat o), .ref b])) rfl (by rw [hml]; rfl) c7 (argsL := [.ref b, .int (Int32.ofNat o), .int (Int32.ofNat len)]) (rest := []) rfl rfl (by show 2 * 0 + 0 ≤ _; decide) (hb hbytes d36) (⟨rfl, hA.mv X5.warmed.alike hh5, l1, l2, hp⟩)
  obtain ⟨e8, z8⟩ := E8
  obtain ⟨rfl, N, n1, n2, n3, n4, n5, n6⟩ := NewArr.mv _ T5 s _ _ hh5.symm (Vm.Alike.refl _) rfl e8
  rw [hh5] at z8
  have hB1 := hB.keep X8.warmed.alike (n6 _ _ hB.1)
  have hne : s.heap.size ≠ a := (Nat.ne_of_lt (Array.getElem?_eq_some_iff.mp hB.1).1).symm
  have c9 : Steps p.tables e below (s₁.setTop (entryFrame m #[.ref a, .ref b, .int (Int32.ofNat o), .int (Int32.ofNat len), .null] 6)) (T8.setTop (mkF m 39 #[.val (.ref a), .val (.ref b), .val (.int (Int32.ofNat o)), .val (.int (Int32.ofNat len)), .val .null, .unset] [.ref s.heap.size])) := g8
  have c10 : Steps p.tables e below (s₁.setTop (entryFrame m #[.ref a, .ref b, .int (Int32.ofNat o), .int (Int32.ofNat len), .null] 6)) (T8.setTop (mkF m 45 #[.val (.ref a), .val (.ref b), .val (.int (Int32.ofNat o)), .val (.int (Int32.ofNat len)), .val .null, .val (.ref s.heap.size)] [.int (Int32.ofNat N.slots.size), .ref s.heap.size, .ref a])) := by
    have hc : Steps p.tables e below (s₁.setTop (entryFrame m #[.ref a, .ref b, .int (Int32.ofNat o), .int (Int32.ofNat len), .null] 6)) (T8.setTop (mkF m 45 #[.val (.ref a), .val (.ref b), .val (.int (Int32.ofNat o)), .val (.int (Int32.ofNat len)), .val .null, .val (.ref s.heap.size)] [.int (Int32.ofNat len), .ref s.heap.size, .ref a])) := c9.trans (by
      refine XS.astore X8.here hexec rfl (hb hbytes d39) rfl rfl rfl ?_
      refine XS.aloadN X8.here hexec rfl (hb hbytes d41) rfl rfl ?_
      refine XS.aload X8.here hexec rfl (hb hbytes d42) rfl rfl ?_
      refine XS.iloadN X8.here hexec rfl (hb hbytes d44) rfl ?_
      exact Steps.refl _)
    rw [n4]; exact hc
  obtain ⟨v11, T11, X11, E11, g11⟩ := X8.callS hexec (CodL.law l s.heap.size N) hown (wks W (staticW "java/lang/String" 47 CodL.yN)) (wk W CodL.tab) (W := 1) (Nat.le_of_ble_eq_true rfl) (Nat.le_of_ble_eq_true rfl) (Nat.le_refl _) (by show 0 + len + 0 ≤ len; omega) (g := (mkF m 45 #[.val (.ref a), .val (.ref b), .val (.int (Int32.ofNat o)), .val (.int (Int32.ofNat len)), .val .null, .val (.ref s.heap.size)] [.int (Int32.ofNat N.slots.size), .ref s.heap.size, .ref a])) rfl (by rw [hml]; rfl) c10 (argsL := [.ref s.heap.size, .int (Int32.ofNat N.slots.size)]) (rest := [.ref a]) rfl rfl (by show 2 * 0 + (1 + 0) ≤ _; decide) (hb hbytes d45) (⟨rfl, n1⟩)
  obtain ⟨rfl, q11⟩ := E11
  have hB11 := hB1.mv (X8.warmed.alike.symm.trans X11.warmed.alike) q11
  have c12 : Steps p.tables e below (s₁.setTop (entryFrame m #[.ref a, .ref b, .int (Int32.ofNat o), .int (Int32.ofNat len), .null] 6)) (T11.setTop (mkF m 48 #[.val (.ref a), .val (.ref b), .val (.int (Int32.ofNat o)), .val (.int (Int32.ofNat len)), .val .null, .val (.ref s.heap.size)] [.int 0, .ref a])) := g11
  obtain ⟨T13, X13, p13, bl13, sl13, st13⟩ := X11.finit hexec hown (wk W (.fieldLink "java/lang/String" 15 "java/lang/String" "coder" "B")) (Or.inr ⟨_, (wk W (.laysFinal "java/lang/String" "java/lang/String" "coder" "B"))⟩) (Or.inl ⟨rfl, hnm⟩) f2 (Or.inl rfl) hB11 (t := .byte) (by decide +kernel) rfl (g := (mkF m 48 #[.val (.ref a), .val (.ref b), .val (.int (Int32.ofNat o)), .val (.int (Int32.ofNat len)), .val .null, .val (.ref s.heap.size)] [.int 0, .ref a])) rfl (rest := []) rfl (hb hbytes d48)
  have c14 : Steps p.tables e below (s₁.setTop (entryFrame m #[.ref a, .ref b, .int (Int32.ofNat o), .int (Int32.ofNat len), .null] 6)) (T13.setTop (mkF m 54 #[.val (.ref a), .val (.ref b), .val (.int (Int32.ofNat o)), .val (.int (Int32.ofNat len)), .val .null, .val (.ref s.heap.size)] [.ref s.heap.size, .ref a])) := (c12.trans (st13 _ (Steps.refl _))).trans (by
    refine XS.aloadN X13.here hexec rfl (hb hbytes d51) rfl rfl ?_
    refine XS.aload X13.here hexec rfl (hb hbytes d52) rfl rfl ?_
    exact Steps.refl _)
  obtain ⟨T15, X15, p15, bl15, sl15, st15⟩ := X13.finit hexec hown (wk W (.fieldLink "java/lang/String" 9 "java/lang/String" "value" "[B")) (Or.inr ⟨_, (wk W (.laysFinal "java/lang/String" "java/lang/String" "value" "[B"))⟩) (Or.inl ⟨rfl, hnm⟩) f1 (Or.inl rfl) bl13 (t := (.array .byte)) (by decide +kernel) rfl (g := (mkF m 54 #[.val (.ref a), .val (.ref b), .val (.int (Int32.ofNat o)), .val (.int (Int32.ofNat len)), .val .null, .val (.ref s.heap.size)] [.ref s.heap.size, .ref a])) rfl (rest := []) rfl (hb hbytes d54)
  have c16 : Steps p.tables e below (s₁.setTop (entryFrame m #[.ref a, .ref b, .int (Int32.ofNat o), .int (Int32.ofNat len), .null] 6)) (T15.setTop (mkF m 57 #[.val (.ref a), .val (.ref b), .val (.int (Int32.ofNat o)), .val (.int (Int32.ofNat len)), .val .null, .val (.ref s.heap.size)] [])) := c14.trans (st15 _ (Steps.refl _))
  have ap := apart (Or.inr ⟨_, (wk W (.laysFinal "java/lang/String" "java/lang/String" "value" "[B"))⟩) (Or.inr ⟨_, (wk W (.laysFinal "java/lang/String" "java/lang/String" "coder" "B"))⟩) f1 f2 (t₁ := .array .byte) (t₂ := .byte) (by decide +kernel) (by decide +kernel) (by decide)
  have al := X8.warmed.alike.symm.trans X15.warmed.alike
  have n7 : T11.heap[s.heap.size]? = some N := by rw [q11]; exact n1.1
  exact ⟨T15, none, _, _, _, X15, by simp, rfl, by omega, (fun _ => rfl), ⟨rfl, _, N, bl15, ((Same.refl D _).set _ (by simp)).set _ (by simp), sl15, (Cell.slots_setSlot_ne _ ap).trans sl13, n1.keep al (p15.other hne (p13.other hne n7)), n2, by rw [al.findClass]; exact n3, n4, n5, fun y c h1 h2 => p15.other h1 (p13.other h1 (by rw [q11]; exact n6 y c h2)), by rw [p15.2.2, p13.2.2, q11]; exact z8⟩, fun fs hl => c16.trans (X15.returnOut hexec hret (hb hbytes d57) hl)⟩
end New4
namespace New1
def yN : MethodName := ⟨"java/lang/String", "<init>", "([C)V"⟩
abbrev yB : ByteArray := jdk_42_method_3_code
theorem d0 : decode yB 0 = .ok (.aload_n 0, 1) := by decide +kernel
theorem d1 : decode yB 1 = .ok (.aload_n 1, 1) := by decide +kernel
theorem d2 : decode yB 2 = .ok (.iconst 0, 1) := by decide +kernel
theorem d3 : decode yB 3 = .ok (.aload_n 1, 1) := by decide +kernel
theorem d4 : decode yB 4 = .ok (.arraylength, 1) := by decide +kernel
theorem d5 : decode yB 5 = .ok (.aconst_null, 1) := by decide +kernel
theorem d6 : decode yB 6 = .ok (.invokespecial 27, 3) := by decide +kernel
theorem d9 : decode yB 9 = .ok (.return_, 1) := by decide +kernel
def site : List Cond := [New4.tab] ++ initW "java/lang/String" 27 New4.yN
def tab : Cond := tabOf yN yB 2 none site
def P (a : Addr) (D : Cell) (fV fC : Field) (b : Addr) (A : Cell) (z : Int32) (args : Array Value) (s : State) : Prop := args = #[.ref a, .ref b] ∧ Blank "java/lang/String" a D s ∧ Found "java/lang/String" "value" "[B" fV s ∧ Found "java/lang/String" "coder" "B" fC s ∧ Ch b A s ∧ StaticIs s "java/lang/String" "COMPACT_STRINGS" "Z" (.int z) ∧ ¬ z = 0 ∧ 0 < A.slots.size ∧ A.slots.size ≤ 536870912 ∧ ∀ i, i < A.slots.size → ¬ 255 < cv A i
def E (a : Addr) (D : Cell) (fV fC : Field) (A : Cell) (r : Option Value) (s u : State) : Prop := Got a D fV fC A 0 A.slots.size r s u
/-- new String(chars), not empty, no char above 255: a Latin-1 String of their low bytes -/
theorem law (l : Launch) (a : Addr) (D : Cell) (fV fC : Field) (b : Addr) (A : Cell) (z : Int32) : Law l yN 2 1 3 52 yB 2 none site (P a D fV fC b A z) (E a D fV fC A) [⟨a, fC.slot⟩, ⟨a, fV.slot⟩] 1 A.slots.size := by
  refine Law.of_walk (plainFor_of_name (by decide +kernel)) (by decide +kernel) (by decide +kernel) (by decide) (fun _ _ h => by rw [h.1]; rfl) (fun _ U U' hal hh h => ⟨h.1, h.2.1.mv hal hh, h.2.2.1.al hal, h.2.2.2.1.al hal, h.2.2.2.2.1.mv hal hh, h.2.2.2.2.2.1.there hal hh, h.2.2.2.2.2.2⟩) (fun r U U' V V' h1 hal h2 h => Got.mv r U U' V V' h1 hal h2 h) ?_
  intro p e s m args below meth c s₁ X0 hexec hbytes hml hret hlk hnm hown hh0 W hP
  obtain ⟨rfl, hB, f1, f2, hA, s1, hz, l0, l2, hp⟩ := hP
  have c1 : Steps p.tables e below (s₁.setTop (entryFrame m #[.ref a, .ref b] 2)) (s₁.setTop (mkF m 0 #[.val (.ref a), .val (.ref b)] [])) := entry rfl
  have c2 : Steps p.tables e below (s₁.setTop (entryFrame m #[.ref a, .ref b] 2)) (s₁.setTop (mkF m 6 #[.val (.ref a), .val (.ref b)] [.null, .int (Int32.ofNat A.slots.size), .int 0, .ref b, .ref a])) := c1.trans (by
    refine XS.aloadN X0.here hexec rfl (hb hbytes d0) rfl rfl ?_
    refine XS.aloadN X0.here hexec rfl (hb hbytes d1) rfl rfl ?_
    refine iconstV X0.here hexec rfl 0 (hb hbytes d2) (by decide) ?_
    refine XS.aloadN X0.here hexec rfl (hb hbytes d3) rfl rfl ?_
    refine X0.alen hexec (hA.1.mv X0.warmed.alike hh0) rfl rfl (hb hbytes d4) ?_
    refine XS.aconstNull X0.here hexec rfl (hb hbytes d5) ?_
    exact Steps.refl _)
  obtain ⟨v3, T3, X3, E3, g3⟩ := X0.callN hexec (New4.law l a D fV fC b A z 0 A.slots.size) rfl hown (wks W (initW "java/lang/String" 27 New4.yN)) (W New4.tab (by simp only [site, List.mem_cons, List.mem_append, true_or, or_true])) (W := 0) (Nat.le_of_ble_eq_true rfl) (Nat.le_of_ble_eq_true rfl) (Nat.le_refl _) (by show 0 + A.slots.size ≤ A.slots.size; omega) (g := (mkF m 6 #[.val (.ref a), .val (.ref b)] [.null, .int (Int32.ofNat A.slots.size), .int (Int32.ofNat 0), .ref b, .ref a])) rfl (by rw [hml]; rfl) c2 (argsL := [.ref b, .int (Int32.ofNat 0), .int (Int32.ofNat A.slots.size), .null]) (rest := []) rfl rfl (by show 2 * 0 + 0 ≤ _; decide) (hb hbytes d6) (⟨rfl, hB.mv X0.warmed.alike hh0, f1.al X0.warmed.alike, f2.al X0.warmed.alike, hA.mv X0.warmed.alike hh0, s1.there X0.warmed.alike hh0, hz, l0, by omega, l2, fun i hi => by rw [Nat.zero_add]; exact hp i hi⟩)
  have e0 := Got.mv _ s₁ s _ _ hh0.symm (Vm.Alike.refl _) rfl E3
  obtain rfl := e0.1
  have c4 : Steps p.tables e below (s₁.setTop (entryFrame m #[.ref a, .ref b] 2)) (T3.setTop (mkF m 9 #[.val (.ref a), .val (.ref b)] [])) := g3
  exact ⟨T3, none, _, _, _, X3, by simp, rfl, by omega, (fun _ => rfl), e0, fun fs hl => c4.trans (X3.returnOut hexec hret (hb hbytes d9) hl)⟩
theorem pays {l : Launch} {R : Room} {p : Program} {e : Env} {below : List Frame} {s : State} {sargs : Array Value} {len W : Nat} (a : Addr) (D : Cell) (fV fC : Field) (b : Addr) (A : Cell) (z : Int32) (htab : tab.before sargs s = true) (hfr : 4 ≤ R.frames) (hlo : W + 65 ≤ R.locals) :
    Back l R p e below s sargs yN len W (fun A₁ a₁ => A₁.cells + 1 ≤ R.cells ∧ A₁.slots + A.slots.size ≤ R.slots ∧ P a D fV fC b A z a₁ A₁.U) (fun A₁ _ v₁ B₁ => E a D fV fC A v₁ A₁.U B₁.U ∧ B₁.locs = A₁.locs ++ [⟨a, fC.slot⟩, ⟨a, fV.slot⟩] ∧ B₁.cells = A₁.cells + 1 ∧ B₁.slots = A₁.slots + A.slots.size) :=
  (law l a D fV fC b A z).pays htab hfr (by omega)
end New1
/-- the byte, read back as charAt reads it, is the char -/
theorem lo8_mask {x : Int32} (h0 : ¬ x < 0) (h1 : ¬ 255 < x) : lo8 x &&& 255 = x := by
  have t : ∀ k : Fin 256, lo8 (Int32.ofNat k.val) &&& 255 = Int32.ofNat k.val := by decide +kernel
  rw [Int32.lt_iff_toInt_lt] at h0 h1
  have e0 : (0 : Int32).toInt = 0 := rfl
  have e1 : (255 : Int32).toInt = 255 := rfl
  obtain ⟨k, hk⟩ : ∃ k : Nat, x.toInt = k := ⟨x.toInt.toNat, by omega⟩
  have hx : x = Int32.ofNat k := Int32.toInt_inj.mp (by rw [hk, Int32.toInt_ofNat_small (by omega)])
  rw [hx]
  exact t ⟨k, by omega⟩
end StrChars
namespace StrChars.Road
open Jvm Sem ClassFile Op Lib Jvm.Stand Jvm.Free Jvm.Free.XT
open Jvm.Lib.Cold (StaticIs)
abbrev ST : String := "java/lang/String"
/-- every table word that New1's law asks, flat -/
abbrev words : List Jvm.Cond := [.code New1.yN New1.yB 2 none, .initialized ST, .methodLink ST 27 New4.yN, .instanceMethod New4.yN,
  .code New4.yN New4.yB 6 none, .fieldLink ST 38 ST "COMPACT_STRINGS" "Z", .laysFinal ST ST "value" "[B", .fieldLink ST 9 ST "value" "[B", .laysFinal ST ST "coder" "B", .fieldLink ST 15 ST "coder" "B",
  .methodLink ST 1 Lib.objectInit, .instanceMethod Lib.objectInit, .code Lib.objectInit ⟨#[0xb1]⟩ 1 none, .methodLink ST 177 Cmp3.yN, .static Cmp3.yN, .methodLink ST 47 CodL.yN, .static CodL.yN,
  .code Cmp3.yN Cmp3.yB 6 (some (.array .byte)), .initialized U16, .arrayClass .byte, .methodLink U16 115 Cmp5.yN, .static Cmp5.yN, .code Cmp5.yN Cmp5.yB 7 (some .int), .code CodL.yN CodL.yB 2 (some .byte)]
theorem tab_of {a : Array Value} {s : State} (h : ∀ w ∈ words, w.before a s = true) : New1.tab.before a s = true := by
  have h5 : Cmp5.tab.before a s = true := unparts (wk h (.code Cmp5.yN Cmp5.yB 7 (some .int))) (wks h (.initialized Cmp5.yN.cls :: Cmp5.site))
  have hc : CodL.tab.before a s = true := unparts (wk h (.code CodL.yN CodL.yB 2 (some .byte))) (wks h (.initialized CodL.yN.cls :: CodL.site))
  have q5 : ∀ w ∈ Cmp5.tab :: words, w.before a s = true := fun w hw => (List.mem_cons.mp hw).elim (fun e => e ▸ h5) (h w)
  have h3 : Cmp3.tab.before a s = true := unparts (wk q5 (.code Cmp3.yN Cmp3.yB 6 (some (.array .byte)))) (wks q5 (.initialized Cmp3.yN.cls :: Cmp3.site))
  have q3 : ∀ w ∈ Cmp3.tab :: CodL.tab :: words, w.before a s = true := fun w hw => (List.mem_cons.mp hw).elim (fun e => e ▸ h3) fun hw => (List.mem_cons.mp hw).elim (fun e => e ▸ hc) (h w)
  have h4 : New4.tab.before a s = true := unparts (wk q3 (.code New4.yN New4.yB 6 none)) (wks q3 (.initialized New4.yN.cls :: New4.site))
  have q4 : ∀ w ∈ New4.tab :: words, w.before a s = true := fun w hw => (List.mem_cons.mp hw).elim (fun e => e ▸ h4) (h w)
  exact unparts (wk q4 (.code New1.yN New1.yB 2 none)) (wks q4 (.initialized New1.yN.cls :: New1.site))
/-- the words ride from the start Z to the walk's own state -/
theorem moved {Z s : State} {a0 args : Array Value} (hZ : Z.Warmed39 s.vm) (hw : ∀ d ∈ words, d.before a0 Z = true) : ∀ d ∈ words, d.before args s = true := fun d hd => by
  have q := hw d hd
  have t : ∀ d ∈ words, d = .arrayClass .byte ∨ (d.onTables && d.keepsFace) = true := by decide +kernel
  rcases t d hd with rfl | t
  · exact RoadKit.mvA hZ q
  · exact RoadKit.mv hZ q t
/-- WHAT COMES BACK, over the tables of the start Z: h the heap at the call, h' behind it -/
def Q (Z : State) (x : Addr) (A : Cell) (h : Heap) (v : Option Value) (h' : Heap) (L : List Loc) : Prop := v = none ∧ (∀ y ∈ L, y.base = x) ∧ RoadKit.Keep h h' [x] ∧ h'.size = h.size + 1 ∧ RoadKit.Exa Z h' x ST ∧ RoadKit.Fld Z h' x ST "value" "[B" (.ref h.size) ∧ RoadKit.Fld Z h' x ST "coder" "B" (.int 0) ∧
  (∃ V : Cell, RoadKit.Arr Z h' h.size V .byte ∧ V.vm = .none ∧ Z.vm.findClass "[B" = some V.cls ∧ V.slots.size = A.slots.size ∧ ∀ j, j < A.slots.size → V.slots[j]? = some (.int (lo8 (cv A j)))) ∧
  ∀ (O n d : String) (w : Value), RoadKit.Fld Z h x O n d w → RoadKit.slotOf Z O n d ≠ RoadKit.slotOf Z ST "value" "[B" → RoadKit.slotOf Z O n d ≠ RoadKit.slotOf Z ST "coder" "B" → RoadKit.Fld Z h' x O n d w
/-- **new String(chars) AT A CALL, IN THE ROAD'S FORM**: for specialBack behind newO: x the fresh String, b the char[] with the cell A -/
theorem back {p : Program} {l : Launch} {e : Env} {R : Room} {s : State} {args : Array Value} {below : List Frame} {len W : Nat} {Z : State} {a0 : Array Value} {h : Heap} (hZ : Z.Warmed39 s.vm) (hw : ∀ d ∈ words, d.before a0 Z = true) {kI : Nat} (wi : (Jvm.Cond.instantiable ST kI).before a0 Z = true)
    {x b : Addr} {A : Cell} {z : Int32} {v0 c0 : Value} (E : RoadKit.Exa Z h x ST) (V : RoadKit.Fld Z h x ST "value" "[B" v0) (C : RoadKit.Fld Z h x ST "coder" "B" c0) (K : RoadKit.Arr Z h b A .char) (hty : Typed .char A) (S : RoadKit.Sta Z h ST "COMPACT_STRINGS" "Z" (.int z)) (hz : ¬ z = 0)
    (l0 : 0 < A.slots.size) (l2 : A.slots.size ≤ 536870912) (hp : ∀ i, i < A.slots.size → ¬ 255 < cv A i) (hfr : 4 ≤ R.frames) (hlo : W + 65 ≤ R.locals) :
    Back l R p e below s args New1.yN len W (fun P a => a = #[.ref x, .ref b] ∧ P.U.heap = h ∧ P.cells + 1 ≤ R.cells ∧ P.slots + A.slots.size ≤ R.slots)
      (fun P _ v B => ∃ L, Q Z x A h v B.U.heap L ∧ B.locs = P.locs ++ L ∧ B.cells = P.cells + 1 ∧ B.slots = P.slots + A.slots.size) := by
  intro m meth c P g ig mk a X hg hsize hdg hW hn hp'
  obtain ⟨rfl, rfl, r1, r2⟩ := hp'
  have al : Z.vm.Alike P.U.vm := hZ.alike.trans X.warmed.alike
  obtain ⟨D, cfV, kV, iV, fV, hD, gV, stV, knV, obV, asV, slV⟩ := id V
  obtain ⟨D', cfC, kC, iC, fC, hD', gC, stC, -, -, asC, slC⟩ := id C
  cases hD.symm.trans hD'
  obtain ⟨D2, kD, e1, e2, e3, e4, e5⟩ := id E
  cases hD.symm.trans e1
  obtain ⟨c2, k2, i1, i2, i3, -⟩ := Cond.instantiable_spec wi
  cases e2.symm.trans i1
  cases e3.symm.trans i2
  obtain ⟨kU, u1, u2⟩ := al.2.2 _ _ e3
  have hB : Blank ST x D P.U := ⟨hD, ⟨knV, fun q hq => by rw [hq] at obV; cases obV⟩, by rw [al.findClass]; exact e2, kU, u1, by rw [u2]; exact i3, by rw [u2]; exact e5 i3⟩
  have F1 : Found ST "value" "[B" fV P.U := ⟨SBG.found_only al ⟨cfV, kV, iV, gV⟩, stV⟩
  have F2 : Found ST "coder" "B" fC P.U := ⟨SBG.found_only al ⟨cfC, kC, iC, gC⟩, stC⟩
  have hA : Ch b A P.U := ⟨⟨K.1, State.isArrayOf_alike al K.2.1, K.2.2, by omega⟩, hty⟩
  have hS : StaticIs P.U ST "COMPACT_STRINGS" "Z" (.int z) := by
    obtain ⟨cfS, iS, kS, fS, st, cS, t1, t2, t3, t4, t5, t6, t7⟩ := S
    exact StaticIs.there (s := { Z with heap := P.U.heap }) ⟨cfS, iS, kS, fS, st, cS, t1, t2, t3, t4, t5, (fun q => by rw [q] at t6; cases t6), t7⟩ al rfl
  obtain ⟨v, B, X', ⟨⟨hv, E', V', q1, q2, q3, q4, q5, q6, q7, q8, q9, q10, q11⟩, hl, hc, hs⟩, st⟩ := New1.pays x D fV fC b A z (tab_of (moved hZ hw)) hfr hlo m meth c P g ig mk _ X hg hsize hdg hW hn ⟨r1, r2, rfl, hB, F1, F2, hA, hS, hz, l0, l2, hp⟩
  have al' : Z.vm.Alike B.U.vm := hZ.alike.trans X'.warmed.alike
  have hsz : E'.slots.size = D.slots.size := by
    obtain ⟨-, -, -, kB, w1, w2, w3⟩ := q1
    obtain ⟨kB', y1, y2⟩ := al'.2.2 _ _ e3
    rw [q2.2.1] at w1
    cases w1.symm.trans y1
    rw [w3, e5 i3, y2]
  refine ⟨v, B, X', ⟨_, ⟨hv, ?_, ⟨by omega, fun y cy hy hn' => q10 y cy (by simpa using hn') hy, fun y cy hy => ?_⟩, q11, ⟨E', _, q1.1, by rw [q2.2.1]; exact e2, by rw [q2.2.1]; exact e3, by rw [q2.1]; exact obV, fun _ => by rw [hsz]; exact e5 i3⟩,
    ⟨E', cfV, kV, iV, fV, q1.1, gV, stV, by rw [q2.1]; exact knV, by rw [q2.1]; exact obV, by rw [q2.2.1]; exact asV, q3⟩, ⟨E', cfC, kC, iC, fC, q1.1, gC, stC, by rw [q2.1]; exact knV, by rw [q2.1]; exact obV, by rw [q2.2.1]; exact asC, q4⟩,
    ⟨V', ⟨q5.1, State.isArrayOf_alike al'.symm q5.2.1, q5.2.2.1⟩, q6, by rw [← al'.findClass]; exact q7, q8, fun j hj => by have := q9 j hj; rwa [Nat.zero_add] at this⟩, fun O n d w F n1 n2 => ?_⟩, hl, hc, hs⟩, st⟩
  · intro y hy
    simp only [List.mem_cons, List.not_mem_nil, or_false] at hy
    rcases hy with rfl | rfl <;> rfl
  · by_cases q : y = x
    · subst q
      cases hD.symm.trans hy
      exact ⟨E', q1.1, q2.2.1, q2.1, hsz⟩
    · exact ⟨cy, q10 y cy q hy, rfl, rfl, rfl⟩
  · obtain ⟨D3, cf, k, i, f, g1, g2, g3, g4, g5, g6, g7⟩ := F
    cases hD.symm.trans g1
    simp only [RoadKit.slotOf, g2, gV, gC, Option.map_some, Option.getD_some] at n1 n2
    exact ⟨E', cf, k, i, f, q1.1, g2, g3, by rw [q2.1]; exact g4, by rw [q2.1]; exact g5, by rw [q2.2.1]; exact g6, by rw [q2.2.2 f.slot (by simp [n1, n2])]; exact g7⟩
end StrChars.Road
namespace StrChars.Road
open Jvm Sem ClassFile Op Lib Jvm.Stand Jvm.Free Jvm.Free.XT
/-- WHAT COMES BACK, the byte[] as a list of values -/
def QA (Z : State) (x : Addr) (zn : Int32) (cs : List Int32) (h : Heap) (v : Option Value) (h' : Heap) (L : List Loc) : Prop := v = none ∧ (∀ y ∈ L, y.base = x) ∧ RoadKit.Keep h h' [x] ∧ h'.size = h.size + 1 ∧ RoadKit.Exa Z h' x ST ∧ RoadKit.Fld Z h' x ST "value" "[B" (.ref h.size) ∧ RoadKit.Fld Z h' x ST "coder" "B" (.int 0) ∧
  (∃ kb, Z.vm.findClass "[B" = some kb ∧ RoadKit.Arv Z h' h.size kb .byte zn (cs.map fun c => .int (lo8 c)) (.int 0)) ∧
  ∀ (O n d : String) (w : Value), RoadKit.Fld Z h x O n d w → RoadKit.slotOf Z O n d ≠ RoadKit.slotOf Z ST "value" "[B" → RoadKit.slotOf Z O n d ≠ RoadKit.slotOf Z ST "coder" "B" → RoadKit.Fld Z h' x O n d w
/-- **new String(chars) AT A CALL, THE ARRAYS AS LISTS**: the char[] at b holds cs, not empty, no char above 255 -/
theorem backArv {p : Program} {l : Launch} {e : Env} {R : Room} {s : State} {args : Array Value} {below : List Frame} {len W : Nat} {Z : State} {a0 : Array Value} {h : Heap} (hZ : Z.Warmed39 s.vm) (hw : ∀ d ∈ words, d.before a0 Z = true) {kI : Nat} (wi : (Jvm.Cond.instantiable ST kI).before a0 Z = true)
    {x b : Addr} {k : ClassId} {zn z : Int32} {cs : List Int32} {dv v0 c0 : Value} (E : RoadKit.Exa Z h x ST) (V : RoadKit.Fld Z h x ST "value" "[B" v0) (C : RoadKit.Fld Z h x ST "coder" "B" c0) (K : RoadKit.Arv Z h b k .char zn (cs.map Value.int) dv) (S : RoadKit.Sta Z h ST "COMPACT_STRINGS" "Z" (.int z)) (hz : ¬ z = 0)
    (hlen : zn.toNatClampNeg = cs.length) (h0 : 0 < cs.length) (hbig : cs.length ≤ 536870912) (hall : ∀ c ∈ cs, ¬ 255 < c) (hfr : 4 ≤ R.frames) (hlo : W + 65 ≤ R.locals) :
    Back l R p e below s args New1.yN len W (fun P a => a = #[.ref x, .ref b] ∧ P.U.heap = h ∧ P.cells + 1 ≤ R.cells ∧ P.slots + cs.length ≤ R.slots)
      (fun P _ v B => ∃ L, QA Z x zn cs h v B.U.heap L ∧ B.locs = P.locs ++ L ∧ B.cells = P.cells + 1 ∧ B.slots = P.slots + cs.length) := by
  obtain ⟨A, K1, K2, K3, K4, K5, K6⟩ := K
  have e : A.slots.size = cs.length := K3.trans hlen
  have hat : ∀ (i : Nat) (hi : i < cs.length), A.slots[i]? = some (.int cs[i]) := fun i hi => by rw [K5 i (by omega)]; simp [List.getD_eq_getElem?_getD, hi]
  have hcv : ∀ (i : Nat) (hi : i < cs.length), cv A i = cs[i] := fun i hi => by unfold cv; rw [hat i hi]
  have hty : Typed .char A := fun i v hv => by
    have hi : i < A.slots.size := (Array.getElem?_eq_some_iff.mp hv).1
    have q := K5 i hi
    rw [hv] at q
    rw [Option.some.inj q]
    exact K6 i hi
  refine Back.mono (back hZ hw wi E V C K1 hty S hz (by omega) (by omega) (fun i hi => by rw [hcv i (by omega)]; exact hall _ (List.getElem_mem _)) hfr hlo) (fun P a hp => ⟨hp.1, hp.2.1, hp.2.2.1, by rw [e]; exact hp.2.2.2⟩) (fun P a v B hp hq => ?_)
  obtain ⟨L, ⟨q1, q2, q3, q4, q5, q6, q7, ⟨V', v1, v2, v3, v4, v5⟩, q9⟩, hl, hc, hs⟩ := hq
  refine ⟨L, ⟨q1, q2, q3, q4, q5, q6, q7, ⟨V'.cls, v3, V', v1, rfl, by rw [v4, e, hlen], K4, fun i hi => ?_, fun i hi => ?_⟩, q9⟩, hl, hc, by rw [hs, e]⟩
  · have hi' : i < cs.length := by omega
    rw [v5 i (by omega), hcv i hi']; simp [List.getD_eq_getElem?_getD, hi']
  · have hi' : i < cs.length := by omega
    simp only [List.getD_eq_getElem?_getD, List.getElem?_map, List.getElem?_eq_getElem hi', Option.map_some, Option.getD_some]
    exact fits_lo8 _
end StrChars.Road
namespace StrChars.Road
open Jvm Sem ClassFile Op Lib Jvm.Stand Jvm.Free Jvm.Free.XT
/-- WHAT COMES BACK, in the writer's own shape -/
def QV (Z : State) (x : Addr) (N : Int32) (bs : List Int32) (h : Heap) (n0 : Nat) (v : Option Value) (h' : Heap) (L : List Loc) : Prop := v = none ∧ RoadKit.Fr n0 L ∧ RoadKit.Keep h h' [x] ∧ RoadKit.Exa Z h' x ST ∧ RoadKit.Fld Z h' x ST "coder" "B" (.int 0) ∧
  ∃ (t : Addr) (kb : ClassId), n0 ≤ t ∧ h.size ≤ t ∧ ¬ t = x ∧ RoadKit.Fld Z h' x ST "value" "[B" (.ref t) ∧ RoadKit.Arv Z h' t kb .byte N (bs.map Value.int) (.int 0)
/-- **new String(chars) AT A CALL, FOR THE WRITER**: a char[] of n known ints, each 0 to 255 -/
theorem backV {p : Program} {l : Launch} {e : Env} {R : Room} {s : State} {args : Array Value} {below : List Frame} {len W : Nat} {Z : State} {a0 : Array Value} {h : Heap} (hZ : Z.Warmed39 s.vm) (hw : ∀ d ∈ words, d.before a0 Z = true) {kI : Nat} (wi : (Jvm.Cond.instantiable ST kI).before a0 Z = true)
    {x b : Addr} {kC : ClassId} {cs bs : List Int32} {d v0 c0 : Value} {z N : Int32} {n n0 : Nat} (hx0 : n0 ≤ x) (hh0 : n0 ≤ h.size) (E : RoadKit.Exa Z h x ST) (V : RoadKit.Fld Z h x ST "value" "[B" v0) (C : RoadKit.Fld Z h x ST "coder" "B" c0) (K : RoadKit.Arv Z h b kC .char N (cs.map Value.int) d) (S : RoadKit.Sta Z h ST "COMPACT_STRINGS" "Z" (.int z)) (hz : ¬ z = 0)
    (hn : cs.length = n) (hN : N = Int32.ofNat n) (l0 : 0 < n) (l2 : n ≤ 4000) (hp : ∀ c ∈ cs, ¬ c < 0 ∧ ¬ (255 : Int32) < c) (hb : bs = cs.map (fun c => c.toInt8.toInt32)) (hfr : 4 ≤ R.frames) (hlo : W + 65 ≤ R.locals) :
    Back l R p e below s args (⟨"java/lang/String", "<init>", "([C)V"⟩ : MethodName) len W (fun P a => a = #[.ref x, .ref b] ∧ P.U.heap = h ∧ P.cells + 1 ≤ R.cells ∧ P.slots + n ≤ R.slots)
      (fun P _ v B => ∃ L, QV Z x N bs h n0 v B.U.heap L ∧ B.locs = P.locs ++ L ∧ B.cells = P.cells + 1 ∧ B.slots = P.slots + n) := by
  subst hn hN hb
  refine Back.mono (backArv hZ hw wi E V C K S hz (n32 (by omega)) l0 (by omega) (fun c hc => (hp c hc).2) hfr hlo) (fun P a hp => hp) (fun P a v B hp hq => ?_)
  obtain ⟨L, ⟨q1, q2, q3, q4, q5, q6, q7, ⟨kb, v1, v2⟩, q9⟩, hl, hc, hs⟩ := hq
  exact ⟨L, ⟨q1, fun y hy => by rw [q2 y hy]; exact hx0, q3, q5, q7, h.size, kb, hh0, Nat.le_refl _, Nat.ne_of_gt E.lt, q6, by rw [List.map_map]; exact v2⟩, hl, hc, hs⟩
end StrChars.Road
namespace StrChars
open Jvm Sem ClassFile Op Lib Jvm.Stand Jvm.Free.XT Jvm.Free.ALB Jvm.Free.JM Jvm.Free
open Jvm.Lib.Cold (StaticIs)
def hi8 (x : Int32) : Int32 := lo8 (x >>> ((8 : Int32) &&& 31))
/-- what StringUTF16.getChar makes of two bytes -/
def pairCh (u v : Int32) : Int32 := (((u &&& 255) <<< ((0 : Int32) &&& 31)) ||| ((v &&& 255) <<< ((8 : Int32) &&& 31))).toUInt32.toUInt16.toUInt32.toInt32
theorem shr0 (c : Int32) : c >>> ((0 : Int32) &&& 31) = c := by
  have e : ((0 : Int32) &&& 31) = 0 := by decide
  rw [e]
  apply Int32.toBitVec_inj.mp
  rw [Int32.toBitVec_shiftRight]
  have e1 : ((0 : Int32).toBitVec.smod 32) = 0#32 := by decide
  rw [e1, BitVec.sshiftRight_eq']
  exact BitVec.sshiftRight_zero
theorem lo8_and (x : Int32) : (lo8 x &&& 255).toBitVec.toNat = x.toBitVec.toNat % 256 := by
  have h : (lo8 x).toBitVec = (x.toBitVec.signExtend 8).signExtend 32 := by rw [lo8, Int8.toBitVec_toInt32, Int32.toBitVec_toInt8]
  rw [Int32.toBitVec_and, BitVec.toNat_and, h]
  have e : ((x.toBitVec.signExtend 8).signExtend 32).toNat % 256 = x.toBitVec.toNat % 256 := by
    rw [BitVec.toNat_signExtend]
    have hlt := x.toBitVec.isLt
    simp only [BitVec.toNat_setWidth, BitVec.toNat_signExtend]
    split <;> split <;> omega
  rw [← e]
  exact Nat.and_two_pow_sub_one_eq_mod _ 8
theorem pair_says {c : Int32} (h0 : ¬ c < 0) (h1 : ¬ 65535 < c) : pairCh (lo8 c) (hi8 c) = c := by
  rw [Int32.lt_iff_toInt_lt] at h0 h1
  have e0 : (0 : Int32).toInt = 0 := rfl
  have e1 : (65535 : Int32).toInt = 65535 := rfl
  have hc : c.toInt = c.toBitVec.toNat := by
    have := c.toBitVec.isLt
    have e : c.toInt = c.toBitVec.toInt := rfl
    rw [e] at h0 h1
    rw [e]
    rw [BitVec.toInt_eq_toNat_cond] at h0 h1 ⊢
    split at h0 <;> split <;> omega
  have hn : c.toBitVec.toNat < 65536 := by omega
  have a1 := lo8_and c
  have a2 : (hi8 c &&& 255).toBitVec.toNat = c.toBitVec.toNat / 256 := by
    rw [hi8, lo8_and]
    have e : ((8 : Int32) &&& 31) = 8 := by decide
    rw [e, Int32.toBitVec_shiftRight]
    have e2 : ((8 : Int32).toBitVec.smod 32) = 8#32 := by decide
    rw [e2, BitVec.sshiftRight_eq', BitVec.toNat_sshiftRight_of_msb_false (by rw [BitVec.msb_eq_false_iff_two_mul_lt]; omega)]
    show c.toBitVec.toNat >>> 8 % 256 = _
    rw [Nat.shiftRight_eq_div_pow]
    omega
  unfold pairCh
  apply Int32.toBitVec_inj.mp
  apply BitVec.eq_of_toNat_eq
  have f0 : ((0 : Int32) &&& 31) = 0 := by decide
  have f8 : ((8 : Int32) &&& 31) = 8 := by decide
  rw [f0, f8]
  have g : (((lo8 c &&& 255) <<< (0 : Int32)) ||| ((hi8 c &&& 255) <<< (8 : Int32))).toBitVec.toNat = c.toBitVec.toNat := by
    rw [Int32.toBitVec_or, Int32.toBitVec_shiftLeft, Int32.toBitVec_shiftLeft]
    have s0 : ((0 : Int32).toBitVec.smod 32) = 0#32 := by decide
    have s8 : ((8 : Int32).toBitVec.smod 32) = 8#32 := by decide
    rw [s0, s8, BitVec.toNat_or]
    simp only [BitVec.shiftLeft_eq', BitVec.toNat_shiftLeft, a1, a2]
    show (c.toBitVec.toNat % 256) <<< 0 % 2 ^ 32 ||| (c.toBitVec.toNat / 256) <<< 8 % 2 ^ 32 = _
    rw [Nat.shiftLeft_zero, Nat.mod_eq_of_lt (show c.toBitVec.toNat % 256 < 2 ^ 32 by omega), Nat.mod_eq_of_lt (show (c.toBitVec.toNat / 256) <<< 8 < 2 ^ 32 by rw [Nat.shiftLeft_eq]; omega), Nat.or_comm, ← Nat.shiftLeft_add_eq_or_of_lt (by omega), Nat.shiftLeft_eq]
    omega
  show BitVec.toNat (((((lo8 c &&& 255) <<< (0 : Int32)) ||| ((hi8 c &&& 255) <<< (8 : Int32))).toBitVec.setWidth 16).setWidth 32) = _
  rw [BitVec.toNat_setWidth, BitVec.toNat_setWidth, g]
  omega
end StrChars
namespace StrChars
open Jvm Sem ClassFile Op Lib Jvm.Stand Jvm.Free.XT Jvm.Free.ALB Jvm.Free.JM Jvm.Free
open Jvm.Lib.Cold (StaticIs)
/-- the array's cell V codes the n chars f 0 .. f (n - 1) by the coder cd, as the JDK does: coder 1 just where some char is above 255 -/
def Cod (cd : Int32) (n : Nat) (f : Nat → Int32) (V : Cell) : Prop := (cd = 0 ∧ V.slots.size = n ∧ ∀ j, j < n → V.slots[j]? = some (.int (lo8 (f j))) ∧ ¬ 255 < f j) ∨ (cd = 1 ∧ V.slots.size = 2 * n ∧ (∀ j, j < n → V.slots[2 * j]? = some (.int (lo8 (f j))) ∧ V.slots[2 * j + 1]? = some (.int (hi8 (f j)))) ∧ ∃ j, j < n ∧ 255 < f j)
/-- **x is a String of the n chars f 0 .. f (n - 1)**, Latin-1 or UTF-16; its array at t has the cell V -/
def Txt (x t : Addr) (V : Cell) (cd : Int32) (n : Nat) (f : Nat → Int32) (U : State) : Prop := Exact "java/lang/String" x U ∧ Has x "java/lang/String" "value" "[B" (.ref t) U ∧ Has x "java/lang/String" "coder" "B" (.int cd) U ∧ XT.Arr .byte t V U ∧ Cod cd n f V ∧ ∀ j, j < n → ¬ f j < 0 ∧ ¬ 65535 < f j
theorem Txt.mv {x t : Addr} {V : Cell} {cd : Int32} {n : Nat} {f : Nat → Int32} {U U' : State} (h : Txt x t V cd n f U) (hal : U.vm.Alike U'.vm) (hh : U'.heap = U.heap) : Txt x t V cd n f U' := ⟨h.1.mv hal hh, h.2.1.mv hal hh, h.2.2.1.mv hal hh, h.2.2.2.1.mv hal hh, h.2.2.2.2⟩
end StrChars
namespace StrChars.Road
open Jvm Sem ClassFile Op Lib Jvm.Stand Jvm.Free Jvm.Free.XT
open Jvm.Lib.Cold (StaticIs)
theorem consq {a : Array Value} {s : State} {c : Jvm.Cond} {L : List Jvm.Cond} (h0 : c.before a s = true) (h : ∀ w ∈ L, w.before a s = true) : ∀ w ∈ c :: L, w.before a s = true := fun w hw => (List.mem_cons.mp hw).elim (fun e => e ▸ h0) (h w)
/-- the bytes of the chars cs, low before high -/
def wideBytes : List Int32 → List Value
  | [] => []
  | c :: cs => .int (lo8 c) :: .int (hi8 c) :: wideBytes cs
theorem wide_lo (d : Value) : ∀ (cs : List Int32) (j : Nat), j < cs.length → (wideBytes cs).getD (2 * j) d = .int (lo8 (cs.getD j 0))
  | [], j, h => absurd h (Nat.not_lt_zero j)
  | c :: cs, 0, _ => rfl
  | c :: cs, j + 1, h => by
    have q := wide_lo d cs j (by simpa using h)
    rw [show 2 * (j + 1) = 2 * j + 1 + 1 from by omega]
    simpa [wideBytes] using q
theorem wide_hi (d : Value) : ∀ (cs : List Int32) (j : Nat), j < cs.length → (wideBytes cs).getD (2 * j + 1) d = .int (hi8 (cs.getD j 0))
  | [], j, h => absurd h (Nat.not_lt_zero j)
  | c :: cs, 0, _ => rfl
  | c :: cs, j + 1, h => by
    have q := wide_hi d cs j (by simpa using h)
    rw [show 2 * (j + 1) + 1 = 2 * j + 1 + 1 + 1 from by omega]
    simpa [wideBytes] using q
theorem low_at (d : Value) (cs : List Int32) (j : Nat) (h : j < cs.length) : (cs.map fun c => Value.int (lo8 c)).getD j d = .int (lo8 (cs.getD j 0)) := by
  simp [List.getD_eq_getElem?_getD, h]
/-- an array of N2 bytes vs codes the chars cs by the coder cd -/
def CodA (cs : List Int32) (cd N2 : Int32) (vs : List Value) : Prop := (cd = 0 ∧ N2 = Int32.ofNat cs.length ∧ vs = (cs.map fun c => Value.int (lo8 c)) ∧ ∀ c ∈ cs, ¬ 255 < c) ∨ (cd = 1 ∧ N2 = Int32.ofNat (2 * cs.length) ∧ vs = wideBytes cs ∧ ∃ c ∈ cs, 255 < c)
theorem CodA.cod {cs : List Int32} {cd N2 : Int32} {vs : List Value} {V : Cell} (h : CodA cs cd N2 vs) (hn : 2 * cs.length < 2 ^ 31) (hs : V.slots.size = N2.toNatClampNeg) (hv : RoadKit.Has V vs (.int 0)) : Cod cd cs.length (fun j => cs.getD j 0) V := by
  rcases h with ⟨rfl, rfl, rfl, h⟩ | ⟨rfl, rfl, rfl, c, hc, hw⟩
  · rw [n32 (by omega)] at hs
    exact Or.inl ⟨rfl, hs, fun j hj => ⟨by rw [hv j (by omega), low_at _ _ _ hj], by
      have e : cs.getD j 0 = cs[j] := by simp [List.getD_eq_getElem?_getD, hj]
      show ¬ 255 < cs.getD j 0
      rw [e]; exact h _ (List.getElem_mem _)⟩⟩
  · rw [n32 (by omega)] at hs
    obtain ⟨j, hj, rfl⟩ := List.getElem_of_mem hc
    exact Or.inr ⟨rfl, hs, fun j hj => ⟨by rw [hv _ (by omega), wide_lo _ _ _ hj], by rw [hv _ (by omega), wide_hi _ _ _ hj]⟩, j, hj, by
      have e : cs.getD j 0 = cs[j] := by simp [List.getD_eq_getElem?_getD, hj]
      show 255 < cs.getD j 0
      rw [e]; exact hw⟩
/-- an object of exactly java/lang/String, its two fields found: as the laws ask it -/
theorem strObj {Z U : State} {a0 : Array Value} {kI : Nat} (wi : (Jvm.Cond.instantiable ST kI).before a0 Z = true) (al : Z.vm.Alike U.vm) {x : Addr} {v0 c0 : Value} (E : RoadKit.Exa Z U.heap x ST) (V : RoadKit.Fld Z U.heap x ST "value" "[B" v0) (C : RoadKit.Fld Z U.heap x ST "coder" "B" c0) :
    ∃ (D : Cell) (fV fC : Field), Blank ST x D U ∧ Found ST "value" "[B" fV U ∧ Found ST "coder" "B" fC U ∧ D.slots[fV.slot]? = some v0 ∧ D.slots[fC.slot]? = some c0 ∧ RoadKit.slotOf Z ST "value" "[B" = fV.slot ∧ RoadKit.slotOf Z ST "coder" "B" = fC.slot := by
  obtain ⟨D, cfV, kV, iV, fV, hD, gV, stV, knV, obV, asV, slV⟩ := V
  obtain ⟨D', cfC, kC, iC, fC, hD', gC, stC, -, -, asC, slC⟩ := C
  cases hD.symm.trans hD'
  obtain ⟨D2, kD, e1, e2, e3, e4, e5⟩ := E
  cases hD.symm.trans e1
  obtain ⟨c2, k2, i1, i2, i3, -⟩ := Cond.instantiable_spec wi
  cases e2.symm.trans i1
  cases e3.symm.trans i2
  obtain ⟨kU, u1, u2⟩ := al.2.2 _ _ e3
  exact ⟨D, fV, fC, ⟨hD, ⟨knV, fun q hq => by rw [hq] at obV; cases obV⟩, by rw [al.findClass]; exact e2, kU, u1, by rw [u2]; exact i3, by rw [u2]; exact e5 i3⟩, ⟨SBG.found_only al ⟨cfV, kV, iV, gV⟩, stV⟩, ⟨SBG.found_only al ⟨cfC, kC, iC, gC⟩, stC⟩, slV, slC, by simp [RoadKit.slotOf, gV], by simp [RoadKit.slotOf, gC]⟩
theorem sta_is {Z U : State} (al : Z.vm.Alike U.vm) {C n d : String} {v : Value} (S : RoadKit.Sta Z U.heap C n d v) : StaticIs U C n d v := by
  obtain ⟨cfS, iS, kS, fS, st, cS, t1, t2, t3, t4, t5, t6, t7⟩ := S
  exact StaticIs.there (s := { Z with heap := U.heap }) ⟨cfS, iS, kS, fS, st, cS, t1, t2, t3, t4, t5, (fun q => by rw [q] at t6; cases t6), t7⟩ al rfl
end StrChars.Road
namespace StrChars
open Jvm Sem ClassFile Op Lib Jvm.Stand Jvm.Free.XT Jvm.Free.ALB Jvm.Free.JM Jvm.Free
open Jvm.Lib.Cold (StaticIs)
/-- what place i of a byte[]'s cell holds -/
def yv (A : Cell) (i : Nat) : Int32 := match A.slots[i]? with | some (.int x) => x | _ => 0
theorem yv_get {a : Addr} {A : Cell} {U : State} (h : XT.Arr .byte a A U) (ht : Typed .byte A) {i : Nat} (hi : i < A.slots.size) : A.slots[i]? = some (.int (yv A i)) := by
  have e := Array.getElem?_eq_getElem hi
  have f := ht i _ e
  unfold yv; rw [e]
  generalize A.slots[i] = v at f
  cases v <;> simp [fits] at f ⊢
/-- the two arrays are equal, place for place -/
def EqC (A B : Cell) : Prop := A.slots.size = B.slots.size ∧ ∀ i, i < A.slots.size → yv A i = yv B i
/-- a boolean that says whether p -/
def Says01 (q : Prop) (r : Option Value) (s u : State) : Prop := ∃ v : Int32, r = some (.int v) ∧ u.heap = s.heap ∧ ((v = 1 ∧ q) ∨ (v = 0 ∧ ¬ q))
theorem Says01.mv {q : Prop} : ∀ r (U U' V V' : State), U'.heap = U.heap → V.vm.Alike V'.vm → V'.heap = V.heap → Says01 q r U V → Says01 q r U' V' :=
  fun r U U' V V' h1 _ h2 ⟨v, a, b, c⟩ => ⟨v, a, by rw [h1, h2]; exact b, c⟩
namespace LEq
def yN : MethodName := ⟨"java/lang/StringLatin1", "equals", "([B[B)Z"⟩
abbrev yB : ByteArray := jdk_43_method_13_code
theorem d0 : decode yB 0 = .ok (.aload_n 0, 1) := by decide +kernel
theorem d1 : decode yB 1 = .ok (.arraylength, 1) := by decide +kernel
theorem d2 : decode yB 2 = .ok (.aload_n 1, 1) := by decide +kernel
theorem d3 : decode yB 3 = .ok (.arraylength, 1) := by decide +kernel
theorem d4 : decode yB 4 = .ok (.if_icmp (.ne) 30, 3) := by decide +kernel
theorem d7 : decode yB 7 = .ok (.iconst 0, 1) := by decide +kernel
theorem d8 : decode yB 8 = .ok (.istore_n 2, 1) := by decide +kernel
theorem d9 : decode yB 9 = .ok (.iload_n 2, 1) := by decide +kernel
theorem d10 : decode yB 10 = .ok (.aload_n 0, 1) := by decide +kernel
theorem d11 : decode yB 11 = .ok (.arraylength, 1) := by decide +kernel
theorem d12 : decode yB 12 = .ok (.if_icmp (.ge) 20, 3) := by decide +kernel
theorem d15 : decode yB 15 = .ok (.aload_n 0, 1) := by decide +kernel
theorem d16 : decode yB 16 = .ok (.iload_n 2, 1) := by decide +kernel
theorem d17 : decode yB 17 = .ok (.baload, 1) := by decide +kernel
theorem d18 : decode yB 18 = .ok (.aload_n 1, 1) := by decide +kernel
theorem d19 : decode yB 19 = .ok (.iload_n 2, 1) := by decide +kernel
theorem d20 : decode yB 20 = .ok (.baload, 1) := by decide +kernel
theorem d21 : decode yB 21 = .ok (.if_icmp (.eq) 5, 3) := by decide +kernel
theorem d24 : decode yB 24 = .ok (.iconst 0, 1) := by decide +kernel
theorem d25 : decode yB 25 = .ok (.ireturn, 1) := by decide +kernel
theorem d26 : decode yB 26 = .ok (.iinc 2 1, 3) := by decide +kernel
theorem d29 : decode yB 29 = .ok (.goto (-20), 3) := by decide +kernel
theorem d32 : decode yB 32 = .ok (.iconst 1, 1) := by decide +kernel
theorem d33 : decode yB 33 = .ok (.ireturn, 1) := by decide +kernel
theorem d34 : decode yB 34 = .ok (.iconst 0, 1) := by decide +kernel
theorem d35 : decode yB 35 = .ok (.ireturn, 1) := by decide +kernel
def site : List Cond := []
def tab : Cond := tabOf yN yB 3 (some .boolean) site
def P (a : Addr) (A : Cell) (b : Addr) (B : Cell) (args : Array Value) (s : State) : Prop := args = #[.ref a, .ref b] ∧ XT.Arr .byte a A s ∧ Typed .byte A ∧ XT.Arr .byte b B s ∧ Typed .byte B
/-- whether two byte[] are equal, place for place -/
theorem law (l : Launch) (a : Addr) (A : Cell) (b : Addr) (B : Cell) : Law l yN 2 2 0 0 yB 3 (some .boolean) site (P a A b B) (Says01 (EqC A B)) [] 0 0 := by
  refine Law.of_walk (plainFor_of_name (by decide +kernel)) (by decide +kernel) (by decide +kernel) (by decide) (fun _ _ h => by rw [h.1]; rfl) (fun _ U U' hal hh h => ⟨h.1, h.2.1.mv hal hh, h.2.2.1, h.2.2.2.1.mv hal hh, h.2.2.2.2⟩) (fun r U U' V V' h1 hal h2 h => Says01.mv r U U' V V' h1 hal h2 h) ?_
  intro p e s m args below meth c s₁ X0 hexec hbytes hml hret hlk hnm hown hh0 W hP
  obtain ⟨rfl, hA, tA, hB, tB⟩ := hP
  have a31 := hA.2.2.2
  have b31 := hB.2.2.2
  have hA0 := hA.mv X0.warmed.alike hh0
  have hB0 := hB.mv X0.warmed.alike hh0
  have c1 : Steps p.tables e below (s₁.setTop (entryFrame m #[.ref a, .ref b] 3)) (s₁.setTop (mkF m 0 #[.val (.ref a), .val (.ref b), .unset] [])) := entry rfl
  have c2 : Steps p.tables e below (s₁.setTop (entryFrame m #[.ref a, .ref b] 3)) (s₁.setTop (mkF m 4 #[.val (.ref a), .val (.ref b), .unset] [.int (Int32.ofNat B.slots.size), .int (Int32.ofNat A.slots.size)])) := c1.trans (by
    refine XS.aloadN X0.here hexec rfl (hb hbytes d0) rfl rfl ?_
    refine X0.alen hexec hA0 rfl rfl (hb hbytes d1) ?_
    refine XS.aloadN X0.here hexec rfl (hb hbytes d2) rfl rfl ?_
    refine X0.alen hexec hB0 rfl rfl (hb hbytes d3) ?_
    exact Steps.refl _)
  by_cases hs : A.slots.size = B.slots.size
  · have c3 : Steps p.tables e below (s₁.setTop (entryFrame m #[.ref a, .ref b] 3)) (s₁.setTop (mkF m 9 #[.val (.ref a), .val (.ref b), .val (.int 0)] [])) := c2.trans (by
      refine XS.icmpNo X0.here hexec rfl (hb hbytes d4) rfl (ii_ne_f (by rw [hs])) ?_
      refine iconstV X0.here hexec rfl 0 (hb hbytes d7) (by decide) ?_
      refine XS.istoreN X0.here hexec rfl (hb hbytes d8) rfl rfl ?_
      exact Steps.refl _)
    have loop : ∀ (r i : Nat), i + r = A.slots.size → (∀ j, j < i → yv A j = yv B j) → Steps p.tables e below (s₁.setTop (entryFrame m #[.ref a, .ref b] 3)) (s₁.setTop (mkF m 9 #[.val (.ref a), .val (.ref b), .val (.int (Int32.ofNat i))] [])) → ∃ (pc : Nat) (Ls : Array Slot) (v : Int32), (pc = 25 ∨ pc = 33) ∧ ((v = 1 ∧ EqC A B) ∨ (v = 0 ∧ ¬ EqC A B)) ∧ Steps p.tables e below (s₁.setTop (entryFrame m #[.ref a, .ref b] 3)) (s₁.setTop (mkF m pc Ls [.int v])) := by
      intro r
      induction r with
      | zero =>
        intro i hi he cl
        exact ⟨33, _, 1, Or.inr rfl, Or.inl ⟨rfl, hs, fun j hj => he j (by omega)⟩, cl.trans (by
          refine XS.iloadN X0.here hexec rfl (hb hbytes d9) rfl ?_
          refine XS.aloadN X0.here hexec rfl (hb hbytes d10) rfl rfl ?_
          refine X0.alen hexec hA0 rfl rfl (hb hbytes d11) ?_
          refine XS.icmpYes X0.here hexec rfl (pc0 := 12) rfl (hb hbytes d12) rfl (ii_ge_t (nlt32 (by omega) (by omega))) (by decide) rfl ?_
          refine iconstV X0.here hexec rfl 1 (hb hbytes d32) (by decide) ?_
          exact Steps.refl _)⟩
      | succ r ih =>
        intro i hi he cl
        have c4 : Steps p.tables e below (s₁.setTop (entryFrame m #[.ref a, .ref b] 3)) (s₁.setTop (mkF m 21 #[.val (.ref a), .val (.ref b), .val (.int (Int32.ofNat i))] [.int (yv B i), .int (yv A i)])) := cl.trans (by
          refine XS.iloadN X0.here hexec rfl (hb hbytes d9) rfl ?_
          refine XS.aloadN X0.here hexec rfl (hb hbytes d10) rfl rfl ?_
          refine X0.alen hexec hA0 rfl rfl (hb hbytes d11) ?_
          refine XS.icmpNo X0.here hexec rfl (hb hbytes d12) rfl (ii_ge_f (lt32 (by omega) (by omega))) ?_
          refine XS.aloadN X0.here hexec rfl (hb hbytes d15) rfl rfl ?_
          refine XS.iloadN X0.here hexec rfl (hb hbytes d16) rfl ?_
          refine X0.aget hexec hA0 rfl (yv_get hA tA (i := i) (by omega)) rfl rfl (hb hbytes d17) ?_
          refine XS.aloadN X0.here hexec rfl (hb hbytes d18) rfl rfl ?_
          refine XS.iloadN X0.here hexec rfl (hb hbytes d19) rfl ?_
          refine X0.aget hexec hB0 rfl (yv_get hB tB (i := i) (by omega)) rfl rfl (hb hbytes d20) ?_
          exact Steps.refl _)
        by_cases hv : yv A i = yv B i
        · have c5 : Steps p.tables e below (s₁.setTop (entryFrame m #[.ref a, .ref b] 3)) (s₁.setTop (mkF m 9 #[.val (.ref a), .val (.ref b), .val (.int (Int32.ofNat i + 1))] [])) := c4.trans (by
            refine XS.icmpYes X0.here hexec rfl (pc0 := 21) rfl (hb hbytes d21) rfl (ii_eq_t hv) (by decide) rfl ?_
            refine iincV X0.here hexec rfl 1 (hb hbytes d26) (by decide) rfl rfl ?_
            refine XS.goto X0.here hexec rfl (pc0 := 29) rfl (hb hbytes d29) (by decide) rfl ?_
            exact Steps.refl _)
          rw [succ32] at c5
          exact ih (i + 1) (by omega) (fun j hj => by
            by_cases e : j = i
            · rw [e]; exact hv
            · exact he j (by omega)) c5
        · exact ⟨25, _, 0, Or.inl rfl, Or.inr ⟨rfl, fun q => hv (q.2 i (by omega))⟩, c4.trans (by
            refine XS.icmpNo X0.here hexec rfl (hb hbytes d21) rfl (ii_eq_f hv) ?_
            refine iconstV X0.here hexec rfl 0 (hb hbytes d24) (by decide) ?_
            exact Steps.refl _)⟩
    obtain ⟨pc, Ls, v, hpc, hv, cz⟩ := loop A.slots.size 0 (by omega) (fun j hj => absurd hj (Nat.not_lt_zero j)) c3
    have nv : narrow .boolean (.int v) = .int v := by rcases hv with ⟨rfl, -⟩ | ⟨rfl, -⟩ <;> rfl
    rcases hpc with rfl | rfl
    · exact ⟨s₁, some (.int v), _, _, _, X0, rfl, rfl, rfl, (fun h => by cases h), ⟨v, rfl, hh0, hv⟩, fun fs hl => cz.trans (X0.ireturnOut hexec hret nv (Or.inr (Or.inl rfl)) (hb hbytes d25) hl)⟩
    · exact ⟨s₁, some (.int v), _, _, _, X0, rfl, rfl, rfl, (fun h => by cases h), ⟨v, rfl, hh0, hv⟩, fun fs hl => cz.trans (X0.ireturnOut hexec hret nv (Or.inr (Or.inl rfl)) (hb hbytes d33) hl)⟩
  · have c3 : Steps p.tables e below (s₁.setTop (entryFrame m #[.ref a, .ref b] 3)) (s₁.setTop (mkF m 35 #[.val (.ref a), .val (.ref b), .unset] [.int 0])) := c2.trans (by
      refine XS.icmpYes X0.here hexec rfl (pc0 := 4) rfl (hb hbytes d4) rfl (ii_ne_t (ne32 a31 b31 hs)) (by decide) rfl ?_
      refine iconstV X0.here hexec rfl 0 (hb hbytes d34) (by decide) ?_
      exact Steps.refl _)
    exact ⟨s₁, some (.int 0), _, _, _, X0, rfl, rfl, rfl, (fun h => by cases h), ⟨0, rfl, hh0, Or.inr ⟨rfl, fun q => hs q.1⟩⟩, fun fs hl => c3.trans (X0.ireturnOut hexec hret rfl (Or.inr (Or.inl rfl)) (hb hbytes d35) hl)⟩
end LEq
theorem Cod.ty {cd : Int32} {n : Nat} {f : Nat → Int32} {V : Cell} (h : Cod cd n f V) : Typed .byte V := fun i v hv => by
  have hi : i < V.slots.size := (Array.getElem?_eq_some_iff.mp hv).1
  rcases h with ⟨-, k1, k2⟩ | ⟨-, k1, k2, -⟩
  · rw [(k2 i (by omega)).1] at hv; cases hv; exact fits_lo8 _
  · rcases Nat.mod_two_eq_zero_or_one i with e | e
    · obtain ⟨j, rfl⟩ : ∃ j, i = 2 * j := ⟨i / 2, by omega⟩
      rw [(k2 j (by omega)).1] at hv; cases hv; exact fits_lo8 _
    · obtain ⟨j, rfl⟩ : ∃ j, i = 2 * j + 1 := ⟨i / 2, by omega⟩
      rw [(k2 j (by omega)).2] at hv; cases hv; exact fits_lo8 _
/-- the same text -/
def SameT (n : Nat) (f : Nat → Int32) (k : Nat) (g : Nat → Int32) : Prop := n = k ∧ ∀ j, j < n → f j = g j
theorem lo8_inj {x y : Int32} (h0 : ¬ x < 0) (h1 : ¬ 255 < x) (k0 : ¬ y < 0) (k1 : ¬ 255 < y) (h : lo8 x = lo8 y) : x = y := by
  rw [← lo8_mask h0 h1, ← lo8_mask k0 k1, h]
/-- arrays coded by one coder are equal just where the texts are -/
theorem Cod.eqv {cd : Int32} {n k : Nat} {f g : Nat → Int32} {V V' : Cell} (h : Cod cd n f V) (h' : Cod cd k g V') (hf : ∀ j, j < n → ¬ f j < 0 ∧ ¬ 65535 < f j) (hg : ∀ j, j < k → ¬ g j < 0 ∧ ¬ 65535 < g j) : EqC V V' ↔ SameT n f k g := by
  have yvv : ∀ {W : Cell} {i : Nat} {x : Int32}, W.slots[i]? = some (.int x) → yv W i = x := fun q => by unfold yv; rw [q]
  rcases h with ⟨rfl, k1, k2⟩ | ⟨rfl, k1, k2, -⟩
  · rcases h' with ⟨-, m1, m2⟩ | ⟨e, -⟩
    · constructor
      · rintro ⟨e1, e2⟩
        refine ⟨by omega, fun j hj => ?_⟩
        have q := e2 j (by omega)
        rw [yvv (k2 j hj).1, yvv (m2 j (by omega)).1] at q
        exact lo8_inj (hf j hj).1 (k2 j hj).2 (hg j (by omega)).1 (m2 j (by omega)).2 q
      · rintro ⟨rfl, e2⟩
        refine ⟨by omega, fun j hj => ?_⟩
        rw [yvv (k2 j (by omega)).1, yvv (m2 j (by omega)).1, e2 j (by omega)]
    · exact absurd e (by decide)
  · rcases h' with ⟨e, -⟩ | ⟨-, m1, m2, -⟩
    · exact absurd e (by decide)
    · constructor
      · rintro ⟨e1, e2⟩
        refine ⟨by omega, fun j hj => ?_⟩
        have q1 := e2 (2 * j) (by omega)
        have q2 := e2 (2 * j + 1) (by omega)
        rw [yvv (k2 j hj).1, yvv (m2 j (by omega)).1] at q1
        rw [yvv (k2 j hj).2, yvv (m2 j (by omega)).2] at q2
        rw [← pair_says (hf j hj).1 (hf j hj).2, ← pair_says (hg j (by omega)).1 (hg j (by omega)).2, q1, q2]
      · rintro ⟨rfl, e2⟩
        refine ⟨by omega, fun i hi => ?_⟩
        rcases Nat.mod_two_eq_zero_or_one i with e | e
        · obtain ⟨j, rfl⟩ : ∃ j, i = 2 * j := ⟨i / 2, by omega⟩
          rw [yvv (k2 j (by omega)).1, yvv (m2 j (by omega)).1, e2 j (by omega)]
        · obtain ⟨j, rfl⟩ : ∃ j, i = 2 * j + 1 := ⟨i / 2, by omega⟩
          rw [yvv (k2 j (by omega)).2, yvv (m2 j (by omega)).2, e2 j (by omega)]
/-- two codings differ: so do the texts -/
theorem Cod.dif {cd cd' : Int32} {n k : Nat} {f g : Nat → Int32} {V V' : Cell} (h : Cod cd n f V) (h' : Cod cd' k g V') (hne : ¬ cd = cd') : ¬ SameT n f k g := by
  rintro ⟨rfl, e⟩
  rcases h with ⟨rfl, -, k2⟩ | ⟨rfl, -, -, j, hj, hw⟩
  · rcases h' with ⟨rfl, -⟩ | ⟨-, -, -, j, hj, hw⟩
    · exact hne rfl
    · exact (k2 j hj).2 (by rw [e j hj]; exact hw)
  · rcases h' with ⟨-, -, m2⟩ | ⟨rfl, -⟩
    · exact (m2 j hj).2 (by rw [← e j hj]; exact hw)
    · exact hne rfl
/-- an object of exactly C is an instance of C -/
theorem cinst {p : Program} {l : Launch} {e : Env} {R : Room} {s : State} {m : MethodId} {args : Array Value} {below : List Frame} {meth : Method} {c : Code} {T : State} {locs : List Loc} {cells slots : Nat} (X : Stand p l e R s m args below meth c T locs cells slots) (hexec : p.tables.exec = Jvm.exec) {own C : String} {index : Nat} (hown : s.vm.findClass own = some m.cls) (hlink : (Cond.classLink own index C).before args s = true) {a : Addr} (hE : Exact C a T)
    {g : JFrame} (hg : g.method = m) {rest : List Value} (hstack : g.stack = .ref a :: rest) (hdg : decode c.code g.pc = .ok (.instanceof index, 3)) :
    ∃ T', Stand p l e R s m args below meth c T' locs cells slots ∧ T'.heap = T.heap ∧ ∀ target, Steps p.tables e below (T'.setTop { g with pc := g.pc + 3, stack := .int 1 :: rest }) target → Steps p.tables e below (T.setTop g) target := by
  obtain ⟨cB, h1, D, h2, h3, h4⟩ := hE
  have h1' : s.vm.findClass C = some cB := by rw [← X.warmed.alike.findClass]; exact h1
  obtain ⟨vm', X', st⟩ := X.instanceofYes hexec hown hlink h2 h4 h1' (by rw [h3]; exact Jvm.Free.SB.assignable_self _ _) hg hstack hdg
  exact ⟨_, X', rfl, st⟩
theorem cself {p : Program} {l : Launch} {e : Env} {R : Room} {s : State} {m : MethodId} {args : Array Value} {below : List Frame} {meth : Method} {c : Code} {T : State} {locs : List Loc} {cells slots : Nat} (X : Stand p l e R s m args below meth c T locs cells slots) (hexec : p.tables.exec = Jvm.exec) {own C : String} {index : Nat} (hown : s.vm.findClass own = some m.cls) (hlink : (Cond.classLink own index C).before args s = true) {a : Addr} (hE : Exact C a T)
    {g : JFrame} (hg : g.method = m) {rest : List Value} (hstack : g.stack = .ref a :: rest) (hdg : decode c.code g.pc = .ok (.checkcast index, 3)) :
    ∃ T', Stand p l e R s m args below meth c T' locs cells slots ∧ T'.heap = T.heap ∧ ∀ target, Steps p.tables e below (T'.setTop { g with pc := g.pc + 3, stack := .ref a :: rest }) target → Steps p.tables e below (T.setTop g) target := by
  obtain ⟨cB, h1, D, h2, h3, h4⟩ := hE
  have h1' : s.vm.findClass C = some cB := by rw [← X.warmed.alike.findClass]; exact h1
  obtain ⟨vm', X', st⟩ := X.checkcastYes hexec hown hlink h2 h4 h1' (by rw [h3]; exact Jvm.Free.SB.assignable_self _ _) hg hstack hdg
  exact ⟨_, X', rfl, fun t h => st t (by rw [← hstack] at h; exact h)⟩
namespace SEq
def yN : MethodName := ⟨"java/lang/String", "equals", "(Ljava/lang/Object;)Z"⟩
abbrev yB : ByteArray := jdk_42_method_66_code
theorem d0 : decode yB 0 = .ok (.aload_n 0, 1) := by decide +kernel
theorem d1 : decode yB 1 = .ok (.aload_n 1, 1) := by decide +kernel
theorem d2 : decode yB 2 = .ok (.if_acmp (.ne) 5, 3) := by decide +kernel
theorem d5 : decode yB 5 = .ok (.iconst 1, 1) := by decide +kernel
theorem d6 : decode yB 6 = .ok (.ireturn, 1) := by decide +kernel
theorem d7 : decode yB 7 = .ok (.aload_n 1, 1) := by decide +kernel
theorem d8 : decode yB 8 = .ok (.instanceof 10, 3) := by decide +kernel
theorem d11 : decode yB 11 = .ok (.ifCond (.eq) 43, 3) := by decide +kernel
theorem d14 : decode yB 14 = .ok (.aload_n 1, 1) := by decide +kernel
theorem d15 : decode yB 15 = .ok (.checkcast 10, 3) := by decide +kernel
theorem d18 : decode yB 18 = .ok (.astore_n 2, 1) := by decide +kernel
theorem d19 : decode yB 19 = .ok (.getstatic 38, 3) := by decide +kernel
theorem d22 : decode yB 22 = .ok (.ifCond (.eq) 14, 3) := by decide +kernel
theorem d25 : decode yB 25 = .ok (.aload_n 0, 1) := by decide +kernel
theorem d26 : decode yB 26 = .ok (.getfield 15, 3) := by decide +kernel
theorem d29 : decode yB 29 = .ok (.aload_n 2, 1) := by decide +kernel
theorem d30 : decode yB 30 = .ok (.getfield 15, 3) := by decide +kernel
theorem d33 : decode yB 33 = .ok (.if_icmp (.ne) 21, 3) := by decide +kernel
theorem d36 : decode yB 36 = .ok (.aload_n 0, 1) := by decide +kernel
theorem d37 : decode yB 37 = .ok (.getfield 9, 3) := by decide +kernel
theorem d40 : decode yB 40 = .ok (.aload_n 2, 1) := by decide +kernel
theorem d41 : decode yB 41 = .ok (.getfield 9, 3) := by decide +kernel
theorem d44 : decode yB 44 = .ok (.invokestatic 541, 3) := by decide +kernel
theorem d47 : decode yB 47 = .ok (.ifCond (.eq) 7, 3) := by decide +kernel
theorem d50 : decode yB 50 = .ok (.iconst 1, 1) := by decide +kernel
theorem d51 : decode yB 51 = .ok (.goto 4, 3) := by decide +kernel
theorem d54 : decode yB 54 = .ok (.iconst 0, 1) := by decide +kernel
theorem d55 : decode yB 55 = .ok (.ireturn, 1) := by decide +kernel
def site : List Cond := [.classLink "java/lang/String" 10 "java/lang/String", .fieldLink "java/lang/String" 38 "java/lang/String" "COMPACT_STRINGS" "Z", .fieldLink "java/lang/String" 15 "java/lang/String" "coder" "B", .fieldLink "java/lang/String" 9 "java/lang/String" "value" "[B", LEq.tab] ++ staticW "java/lang/String" 541 LEq.yN
def tab : Cond := tabOf yN yB 3 (some .boolean) site
def P (x t : Addr) (V : Cell) (cd : Int32) (n : Nat) (f : Nat → Int32) (y t' : Addr) (V' : Cell) (cd' : Int32) (k : Nat) (g : Nat → Int32) (z : Int32) (args : Array Value) (s : State) : Prop := args = #[.ref x, .ref y] ∧ Txt x t V cd n f s ∧ Txt y t' V' cd' k g s ∧ StaticIs s "java/lang/String" "COMPACT_STRINGS" "Z" (.int z) ∧ ¬ z = 0
/-- equals(Object) of two Strings: whether the texts are the same -/
theorem law (l : Launch) (x t : Addr) (V : Cell) (cd : Int32) (n : Nat) (f : Nat → Int32) (y t' : Addr) (V' : Cell) (cd' : Int32) (k : Nat) (g : Nat → Int32) (z : Int32) : Law l yN 2 1 1 14 yB 3 (some .boolean) site (P x t V cd n f y t' V' cd' k g z) (Says01 (SameT n f k g)) [] 0 0 := by
  refine Law.of_walk (plainFor_of_name (by decide +kernel)) (by decide +kernel) (by decide +kernel) (by decide) (fun _ _ h => by rw [h.1]; rfl) (fun _ U U' hal hh h => ⟨h.1, h.2.1.mv hal hh, h.2.2.1.mv hal hh, h.2.2.2.1.there hal hh, h.2.2.2.2⟩) (fun r U U' V V' h1 hal h2 h => Says01.mv r U U' V V' h1 hal h2 h) ?_
  intro p e s m args below meth c s₁ X0 hexec hbytes hml hret hlk hnm hown hh0 W hP
  obtain ⟨rfl, hx, hy, s1, hz⟩ := hP
  have c1 : Steps p.tables e below (s₁.setTop (entryFrame m #[.ref x, .ref y] 3)) (s₁.setTop (mkF m 2 #[.val (.ref x), .val (.ref y), .unset] [.ref y, .ref x])) := Steps.trans (entry rfl) (by
    show Steps p.tables e below (s₁.setTop (mkF m 0 #[.val (.ref x), .val (.ref y), .unset] [])) _
    refine XS.aloadN X0.here hexec rfl (hb hbytes d0) rfl rfl ?_
    refine XS.aloadN X0.here hexec rfl (hb hbytes d1) rfl rfl ?_
    exact Steps.refl _)
  by_cases hxy : x = y
  · have c2 : Steps p.tables e below (s₁.setTop (entryFrame m #[.ref x, .ref y] 3)) (s₁.setTop (mkF m 6 #[.val (.ref x), .val (.ref y), .unset] [.int 1])) := c1.trans (by
      refine acmpNo X0.here hexec rfl (hb hbytes d2) rfl rfl rfl (by simp [acmp, hxy]) ?_
      refine iconstV X0.here hexec rfl 1 (hb hbytes d5) (by decide) ?_
      exact Steps.refl _)
    subst hxy
    have ec : cd = cd' := by
      obtain ⟨D, fd, a1, a2, a3⟩ := hx.2.2.1
      obtain ⟨D', fd', b1, b2, b3⟩ := hy.2.2.1
      cases a1.symm.trans b1
      obtain ⟨q1, q2, q3, q4⟩ := a2.1
      obtain ⟨r1, r2, r3, r4⟩ := b2.1
      cases q4.symm.trans r4
      cases a3.symm.trans b3; rfl
    have et : t = t' := by
      obtain ⟨D, fd, a1, a2, a3⟩ := hx.2.1
      obtain ⟨D', fd', b1, b2, b3⟩ := hy.2.1
      cases a1.symm.trans b1
      obtain ⟨q1, q2, q3, q4⟩ := a2.1
      obtain ⟨r1, r2, r3, r4⟩ := b2.1
      cases q4.symm.trans r4
      cases a3.symm.trans b3; rfl
    subst ec et
    have ev : V = V' := by cases hx.2.2.2.1.1.symm.trans hy.2.2.2.1.1; rfl
    subst ev
    have hs : SameT n f k g := (Cod.eqv hx.2.2.2.2.1 hy.2.2.2.2.1 hx.2.2.2.2.2 hy.2.2.2.2.2).mp ⟨rfl, fun _ _ => rfl⟩
    exact ⟨s₁, some (.int 1), _, _, _, X0, rfl, rfl, rfl, (fun h => by cases h), ⟨1, rfl, hh0, Or.inl ⟨rfl, hs⟩⟩, fun fs hl => c2.trans (X0.ireturnOut hexec hret rfl (Or.inr (Or.inl rfl)) (hb hbytes d6) hl)⟩
  · have c2 : Steps p.tables e below (s₁.setTop (entryFrame m #[.ref x, .ref y] 3)) (s₁.setTop (mkF m 8 #[.val (.ref x), .val (.ref y), .unset] [.ref y])) := c1.trans (by
      refine acmpYes X0.here hexec rfl (pc0 := 2) rfl (hb hbytes d2) rfl rfl rfl (by simp [acmp, hxy]) (by decide) rfl ?_
      refine XS.aloadN X0.here hexec rfl (hb hbytes d7) rfl rfl ?_
      exact Steps.refl _)
    obtain ⟨T3, X3, q3, st3⟩ := cinst X0 hexec hown (wk W (.classLink "java/lang/String" 10 "java/lang/String")) (hy.mv X0.warmed.alike hh0).1 (g := (mkF m 8 #[.val (.ref x), .val (.ref y), .unset] [.ref y])) rfl (rest := []) rfl (hb hbytes d8)
    have hh3 := q3.trans hh0
    have c4 : Steps p.tables e below (s₁.setTop (entryFrame m #[.ref x, .ref y] 3)) (T3.setTop (mkF m 15 #[.val (.ref x), .val (.ref y), .unset] [.ref y])) := (c2.trans (st3 _ (Steps.refl _))).trans (by
      refine XS.ifNo X3.here hexec rfl (hb hbytes d11) rfl (i0_eq_f (by decide)) ?_
      refine XS.aloadN X3.here hexec rfl (hb hbytes d14) rfl rfl ?_
      exact Steps.refl _)
    obtain ⟨T5, X5, q5, st5⟩ := cself X3 hexec hown (wk W (.classLink "java/lang/String" 10 "java/lang/String")) (hy.mv X3.warmed.alike hh3).1 (g := (mkF m 15 #[.val (.ref x), .val (.ref y), .unset] [.ref y])) rfl (rest := []) rfl (hb hbytes d15)
    have hh5 := q5.trans hh3
    have c6 : Steps p.tables e below (s₁.setTop (entryFrame m #[.ref x, .ref y] 3)) (T5.setTop (mkF m 19 #[.val (.ref x), .val (.ref y), .val (.ref y)] [])) := (c4.trans (st5 _ (Steps.refl _))).trans (by
      refine XS.astoreN X5.here hexec rfl (hb hbytes d18) rfl rfl rfl ?_
      exact Steps.refl _)
    obtain ⟨T7, X7, q7, st7⟩ := X5.sget hexec hown (wk W (.fieldLink "java/lang/String" 38 "java/lang/String" "COMPACT_STRINGS" "Z")) s1 (fun _ _ h => by rw [hh5]; exact h) (g := (mkF m 19 #[.val (.ref x), .val (.ref y), .val (.ref y)] [])) rfl (hb hbytes d19)
    have hh7 := q7.trans hh5
    have c8 : Steps p.tables e below (s₁.setTop (entryFrame m #[.ref x, .ref y] 3)) (T7.setTop (mkF m 26 #[.val (.ref x), .val (.ref y), .val (.ref y)] [.ref x])) := (c6.trans (st7 _ (Steps.refl _))).trans (by
      refine XS.ifNo X7.here hexec rfl (hb hbytes d22) rfl (i0_eq_f hz) ?_
      refine XS.aloadN X7.here hexec rfl (hb hbytes d25) rfl rfl ?_
      exact Steps.refl _)
    obtain ⟨T9, X9, q9, st9⟩ := X7.hget hexec hown (wk W (.fieldLink "java/lang/String" 15 "java/lang/String" "coder" "B")) (hx.mv X7.warmed.alike hh7).2.2.1 (g := (mkF m 26 #[.val (.ref x), .val (.ref y), .val (.ref y)] [.ref x])) rfl (rest := []) rfl (hb hbytes d26)
    have hh9 := q9.trans hh7
    have c10 : Steps p.tables e below (s₁.setTop (entryFrame m #[.ref x, .ref y] 3)) (T9.setTop (mkF m 30 #[.val (.ref x), .val (.ref y), .val (.ref y)] [.ref y, .int cd])) := (c8.trans (st9 _ (Steps.refl _))).trans (by
      refine XS.aloadN X9.here hexec rfl (hb hbytes d29) rfl rfl ?_
      exact Steps.refl _)
    obtain ⟨T11, X11, q11, st11⟩ := X9.hget hexec hown (wk W (.fieldLink "java/lang/String" 15 "java/lang/String" "coder" "B")) (hy.mv X9.warmed.alike hh9).2.2.1 (g := (mkF m 30 #[.val (.ref x), .val (.ref y), .val (.ref y)] [.ref y, .int cd])) rfl (rest := [.int cd]) rfl (hb hbytes d30)
    have hh11 := q11.trans hh9
    have c12 : Steps p.tables e below (s₁.setTop (entryFrame m #[.ref x, .ref y] 3)) (T11.setTop (mkF m 33 #[.val (.ref x), .val (.ref y), .val (.ref y)] [.int cd', .int cd])) := c10.trans (st11 _ (Steps.refl _))
    by_cases hcd : cd = cd'
    · subst hcd
      have c13 : Steps p.tables e below (s₁.setTop (entryFrame m #[.ref x, .ref y] 3)) (T11.setTop (mkF m 37 #[.val (.ref x), .val (.ref y), .val (.ref y)] [.ref x])) := c12.trans (by
        refine XS.icmpNo X11.here hexec rfl (hb hbytes d33) rfl (ii_ne_f rfl) ?_
        refine XS.aloadN X11.here hexec rfl (hb hbytes d36) rfl rfl ?_
        exact Steps.refl _)
      obtain ⟨T14, X14, q14, st14⟩ := X11.hget hexec hown (wk W (.fieldLink "java/lang/String" 9 "java/lang/String" "value" "[B")) (hx.mv X11.warmed.alike hh11).2.1 (g := (mkF m 37 #[.val (.ref x), .val (.ref y), .val (.ref y)] [.ref x])) rfl (rest := []) rfl (hb hbytes d37)
      have hh14 := q14.trans hh11
      have c15 : Steps p.tables e below (s₁.setTop (entryFrame m #[.ref x, .ref y] 3)) (T14.setTop (mkF m 41 #[.val (.ref x), .val (.ref y), .val (.ref y)] [.ref y, .ref t])) := (c13.trans (st14 _ (Steps.refl _))).trans (by
        refine XS.aloadN X14.here hexec rfl (hb hbytes d40) rfl rfl ?_
        exact Steps.refl _)
      obtain ⟨T16, X16, q16, st16⟩ := X14.hget hexec hown (wk W (.fieldLink "java/lang/String" 9 "java/lang/String" "value" "[B")) (hy.mv X14.warmed.alike hh14).2.1 (g := (mkF m 41 #[.val (.ref x), .val (.ref y), .val (.ref y)] [.ref y, .ref t])) rfl (rest := [.ref t]) rfl (hb hbytes d41)
      have hh16 := q16.trans hh14
      have c17 : Steps p.tables e below (s₁.setTop (entryFrame m #[.ref x, .ref y] 3)) (T16.setTop (mkF m 44 #[.val (.ref x), .val (.ref y), .val (.ref y)] [.ref t', .ref t])) := c15.trans (st16 _ (Steps.refl _))
      obtain ⟨v18, T18, X18, E18, g18⟩ := X16.callS hexec (LEq.law l t V t' V') hown (wks W (staticW "java/lang/String" 541 LEq.yN)) (wk W LEq.tab) (W := 0) (Nat.le_of_ble_eq_true rfl) (Nat.le_of_ble_eq_true rfl) (Nat.le_refl _) (Nat.le_refl _) (g := (mkF m 44 #[.val (.ref x), .val (.ref y), .val (.ref y)] [.ref t', .ref t])) rfl (by rw [hml]; rfl) c17 (argsL := [.ref t, .ref t']) (rest := []) rfl rfl (by show 2 * 0 + 0 ≤ _; decide) (hb hbytes d44) (⟨rfl, hx.2.2.2.1.mv X16.warmed.alike hh16, hx.2.2.2.2.1.ty, hy.2.2.2.1.mv X16.warmed.alike hh16, hy.2.2.2.2.1.ty⟩)
      obtain ⟨v, rfl, q18, hv⟩ := E18
      have iff := Cod.eqv hx.2.2.2.2.1 hy.2.2.2.2.1 hx.2.2.2.2.2 hy.2.2.2.2.2
      rcases hv with ⟨rfl, he⟩ | ⟨rfl, he⟩
      · have c19 : Steps p.tables e below (s₁.setTop (entryFrame m #[.ref x, .ref y] 3)) (T18.setTop (mkF m 55 #[.val (.ref x), .val (.ref y), .val (.ref y)] [.int 1])) := Steps.trans g18 (by
          refine XS.ifNo X18.here hexec rfl (hb hbytes d47) rfl (i0_eq_f (by decide)) ?_
          refine iconstV X18.here hexec rfl 1 (hb hbytes d50) (by decide) ?_
          refine XS.goto X18.here hexec rfl (pc0 := 51) rfl (hb hbytes d51) (by decide) rfl ?_
          exact Steps.refl _)
        exact ⟨T18, some (.int 1), _, _, _, X18, rfl, rfl, rfl, (fun h => by cases h), ⟨1, rfl, q18.trans hh16, Or.inl ⟨rfl, iff.mp he⟩⟩, fun fs hl => c19.trans (X18.ireturnOut hexec hret rfl (Or.inr (Or.inl rfl)) (hb hbytes d55) hl)⟩
      · have c19 : Steps p.tables e below (s₁.setTop (entryFrame m #[.ref x, .ref y] 3)) (T18.setTop (mkF m 55 #[.val (.ref x), .val (.ref y), .val (.ref y)] [.int 0])) := Steps.trans g18 (by
          refine XS.ifYes X18.here hexec rfl (pc0 := 47) rfl (hb hbytes d47) rfl (i0_eq_t rfl) (by decide) rfl ?_
          refine iconstV X18.here hexec rfl 0 (hb hbytes d54) (by decide) ?_
          exact Steps.refl _)
        exact ⟨T18, some (.int 0), _, _, _, X18, rfl, rfl, rfl, (fun h => by cases h), ⟨0, rfl, q18.trans hh16, Or.inr ⟨rfl, fun q => he (iff.mpr q)⟩⟩, fun fs hl => c19.trans (X18.ireturnOut hexec hret rfl (Or.inr (Or.inl rfl)) (hb hbytes d55) hl)⟩
    · have c13 : Steps p.tables e below (s₁.setTop (entryFrame m #[.ref x, .ref y] 3)) (T11.setTop (mkF m 55 #[.val (.ref x), .val (.ref y), .val (.ref y)] [.int 0])) := c12.trans (by
        refine XS.icmpYes X11.here hexec rfl (pc0 := 33) rfl (hb hbytes d33) rfl (ii_ne_t hcd) (by decide) rfl ?_
        refine iconstV X11.here hexec rfl 0 (hb hbytes d54) (by decide) ?_
        exact Steps.refl _)
      exact ⟨T11, some (.int 0), _, _, _, X11, rfl, rfl, rfl, (fun h => by cases h), ⟨0, rfl, hh11, Or.inr ⟨rfl, Cod.dif hx.2.2.2.2.1 hy.2.2.2.2.1 hcd⟩⟩, fun fs hl => c13.trans (X11.ireturnOut hexec hret rfl (Or.inr (Or.inl rfl)) (hb hbytes d55) hl)⟩
theorem pays {l : Launch} {R : Room} {p : Program} {e : Env} {below : List Frame} {s : State} {sargs : Array Value} {len W : Nat} (x t : Addr) (V : Cell) (cd : Int32) (n : Nat) (f : Nat → Int32) (y t' : Addr) (V' : Cell) (cd' : Int32) (k : Nat) (g : Nat → Int32) (z : Int32) (htab : tab.before sargs s = true) (hfr : 2 ≤ R.frames) (hlo : W + 28 ≤ R.locals) :
    Back l R p e below s sargs yN len W (fun A₁ a₁ => A₁.cells + 0 ≤ R.cells ∧ A₁.slots + 0 ≤ R.slots ∧ P x t V cd n f y t' V' cd' k g z a₁ A₁.U) (fun A₁ _ v₁ B₁ => Says01 (SameT n f k g) v₁ A₁.U B₁.U ∧ B₁.locs = A₁.locs ++ [] ∧ B₁.cells = A₁.cells + 0 ∧ B₁.slots = A₁.slots + 0) :=
  (law l x t V cd n f y t' V' cd' k g z).pays htab hfr (by omega)
end SEq
end StrChars
namespace StrChars.Road
open Jvm Sem ClassFile Op Lib Jvm.Stand Jvm.Free Jvm.Free.XT
open Jvm.Lib.Cold (StaticIs)
/-- the words of String.equals(Object) -/
abbrev wordsEq : List Jvm.Cond := [.code SEq.yN SEq.yB 3 (some .boolean), .initialized ST, .classLink ST 10 ST, .fieldLink ST 38 ST "COMPACT_STRINGS" "Z", .fieldLink ST 15 ST "coder" "B", .fieldLink ST 9 ST "value" "[B", .methodLink ST 541 LEq.yN, .static LEq.yN, .code LEq.yN LEq.yB 3 (some .boolean), .initialized "java/lang/StringLatin1"]
theorem tabEq_of {a : Array Value} {s : State} (h : ∀ w ∈ wordsEq, w.before a s = true) : SEq.tab.before a s = true := by
  have hl : LEq.tab.before a s = true := unparts (wk h (.code LEq.yN LEq.yB 3 (some .boolean))) (wks h (.initialized LEq.yN.cls :: LEq.site))
  have q := consq hl h
  exact unparts (wk q (.code SEq.yN SEq.yB 3 (some .boolean))) (wks q (.initialized SEq.yN.cls :: SEq.site))
theorem movedEq {Z s : State} {a0 args : Array Value} (hZ : Z.Warmed39 s.vm) (hw : ∀ d ∈ wordsEq, d.before a0 Z = true) : ∀ d ∈ wordsEq, d.before args s = true := fun d hd => by
  have t : ∀ d ∈ wordsEq, (d.onTables && d.keepsFace) = true := by decide +kernel
  exact RoadKit.mv hZ (hw d hd) (t d hd)
/-- the road's facts of a String, as the laws ask it -/
theorem txt_of {Z U : State} {a0 : Array Value} {kI : Nat} (wi : (Jvm.Cond.instantiable ST kI).before a0 Z = true) (al : Z.vm.Alike U.vm) {x t : Addr} {kb : ClassId} {cs : List Int32} {cd N2 : Int32} {vs : List Value} (E : RoadKit.Exa Z U.heap x ST) (V : RoadKit.Fld Z U.heap x ST "value" "[B" (.ref t)) (C : RoadKit.Fld Z U.heap x ST "coder" "B" (.int cd)) (K : RoadKit.Arv Z U.heap t kb .byte N2 vs (.int 0)) (hc : CodA cs cd N2 vs) (hb : ∀ c ∈ cs, ¬ c < 0 ∧ ¬ (65535 : Int32) < c) (l2 : cs.length ≤ 4000) :
    ∃ A, Txt x t A cd cs.length (fun j => cs.getD j 0) U := by
  obtain ⟨A, K1, K2, K3, K4, K5, K6⟩ := K
  have hcod := hc.cod (by omega) K3 K5
  obtain ⟨D, fV, fC, hB, F1, F2, g1, g2, -, -⟩ := strObj wi al E V C
  exact ⟨A, ⟨_, hB.2.2.1, D, hB.1, rfl, by cases q : D.vm <;> first | rfl | exact absurd q (hB.2.1.2 _)⟩, Has.of hB F1 g1, Has.of hB F2 g2, ⟨K1.1, State.isArrayOf_alike al K1.2.1, K1.2.2, by rcases hcod with ⟨-, q, -⟩ | ⟨-, q, -⟩ <;> omega⟩, hcod, fun j hj => by
    have e : cs.getD j 0 = cs[j] := by simp [List.getD_eq_getElem?_getD, hj]
    show ¬ cs.getD j 0 < 0 ∧ ¬ 65535 < cs.getD j 0
    rw [e]; exact hb _ (List.getElem_mem _)⟩
theorem same_list (cs ds : List Int32) : SameT cs.length (fun j => cs.getD j 0) ds.length (fun j => ds.getD j 0) ↔ cs = ds := by
  constructor
  · rintro ⟨e, q⟩
    refine List.ext_getElem e fun j h1 h2 => ?_
    have := q j h1
    simpa [List.getD_eq_getElem?_getD, h1, h2] using this
  · rintro rfl
    exact ⟨rfl, fun _ _ => rfl⟩
/-- **equals(Object) OF TWO SUCH STRINGS**: 1 just where the chars are the same -/
theorem eqW {p : Program} {l : Launch} {e : Env} {R : Room} {s : State} {args : Array Value} {below : List Frame} {len W : Nat} {Z : State} {a0 : Array Value} {h : Heap} (hZ : Z.Warmed39 s.vm) (hw : ∀ d ∈ wordsEq, d.before a0 Z = true) {kI : Nat} (wi : (Jvm.Cond.instantiable ST kI).before a0 Z = true)
    {x t : Addr} {kb : ClassId} {cs : List Int32} {cd N2 : Int32} {vs : List Value} (E : RoadKit.Exa Z h x ST) (V : RoadKit.Fld Z h x ST "value" "[B" (.ref t)) (C : RoadKit.Fld Z h x ST "coder" "B" (.int cd)) (K : RoadKit.Arv Z h t kb .byte N2 vs (.int 0)) (hc : CodA cs cd N2 vs) (hb : ∀ c ∈ cs, ¬ c < 0 ∧ ¬ (65535 : Int32) < c) (l2 : cs.length ≤ 4000)
    {y t' : Addr} {kb' : ClassId} {ds : List Int32} {cd' N2' : Int32} {vs' : List Value} (E' : RoadKit.Exa Z h y ST) (V' : RoadKit.Fld Z h y ST "value" "[B" (.ref t')) (C' : RoadKit.Fld Z h y ST "coder" "B" (.int cd')) (K' : RoadKit.Arv Z h t' kb' .byte N2' vs' (.int 0)) (hc' : CodA ds cd' N2' vs') (hb' : ∀ c ∈ ds, ¬ c < 0 ∧ ¬ (65535 : Int32) < c) (l2' : ds.length ≤ 4000)
    {z : Int32} (S : RoadKit.Sta Z h ST "COMPACT_STRINGS" "Z" (.int z)) (hz : ¬ z = 0) (hfr : 2 ≤ R.frames) (hlo : W + 28 ≤ R.locals) :
    Back l R p e below s args (⟨"java/lang/String", "equals", "(Ljava/lang/Object;)Z"⟩ : MethodName) len W (fun P a => a = #[.ref x, .ref y] ∧ P.U.heap = h ∧ P.cells + 0 ≤ R.cells ∧ P.slots + 0 ≤ R.slots)
      (fun P _ v B => ∃ L, (((v = some (.int 1) ∧ cs = ds) ∨ (v = some (.int 0) ∧ ¬ cs = ds)) ∧ L = [] ∧ B.U.heap = h) ∧ B.locs = P.locs ++ L ∧ B.cells = P.cells + 0 ∧ B.slots = P.slots + 0) := by
  intro m meth c P g ig mk a X hg hsize hdg hW hn hp'
  obtain ⟨rfl, rfl, r1, r2⟩ := hp'
  have al : Z.vm.Alike P.U.vm := hZ.alike.trans X.warmed.alike
  obtain ⟨A, hx⟩ := txt_of wi al E V C K hc hb l2
  obtain ⟨A', hy⟩ := txt_of wi al E' V' C' K' hc' hb' l2'
  obtain ⟨v, B, X', ⟨⟨w, hv, hh, hq⟩, hl, hk, hs⟩, st⟩ := SEq.pays x t A cd cs.length (fun j => cs.getD j 0) y t' A' cd' ds.length (fun j => ds.getD j 0) z (tabEq_of (movedEq hZ hw)) hfr hlo m meth c P g ig mk _ X hg hsize hdg hW hn ⟨r1, r2, rfl, hx, hy, sta_is al S, hz⟩
  refine ⟨v, B, X', ⟨[], ⟨?_, rfl, hh⟩, hl, hk, hs⟩, st⟩
  rcases hq with ⟨rfl, q⟩ | ⟨rfl, q⟩
  · exact Or.inl ⟨hv, (same_list cs ds).mp q⟩
  · exact Or.inr ⟨hv, fun e => q ((same_list cs ds).mpr e)⟩
end StrChars.Road
namespace StrChars.Road
open Jvm Sem ClassFile Op Lib Jvm.Stand Jvm.Free Jvm.Free.XT
open Jvm.Lib.Cold (StaticIs)
/-- what backV says of its String, as the contracts of this text ask it: cs's low bytes, coder 0 -/
theorem codOf {cs : List Int32} {n : Nat} (hn : cs.length = n) (hb : ∀ c ∈ cs, ¬ 255 < c) : CodA cs 0 (Int32.ofNat n) ((cs.map lo8).map Value.int) := Or.inl ⟨rfl, by rw [hn], by simp [List.map_map, Function.comp_def], hb⟩
end StrChars.Road
end Jvm.Pilot.@@N@@
namespace Jvm.Pilot.@@N@@
open Jvm Jvm.ClassFile Sem Op Lib Jvm.Free Jvm.Stand Jvm.LawKit Jvm.RoadKit Bundle Jvm.Own Jvm.Pilot.@@N@@.Jvm.D
abbrev ST : String := "java/lang/String"
abbrev EL0 : List (String × Nat) := consts_1
/-- x is a String of the chars cs -/
def Str (Z : State) (h : Heap) (x : Addr) (cs : List Int32) : Prop := ∃ (t : Addr) (kb : ClassId) (cd N2 : Int32) (vs : List Value), Exa Z h x ST ∧ Fld Z h x ST "value" "[B" (.ref t) ∧ Fld Z h x ST "coder" "B" (.int cd) ∧ Arv Z h t kb .byte N2 vs (.int 0) ∧
  StrChars.Road.CodA cs cd N2 vs ∧ (∀ c ∈ cs, ¬ c < 0 ∧ ¬ (65535 : Int32) < c) ∧ cs.length ≤ 4000
section S
variable {Z : State} {h h' : Heap} {x a : Addr} {cs ds : List Int32} {C : String} {n : Nat} {a0 : Array Value} {p : Program} {l : Launch} {e : Env} {R : Room} {s : State} {args : Array Value} {below : List Frame} {W : Nat} {z : Int32}
theorem Str.ext (S : Str Z h x cs) (E : Ext h h') : Str Z h' x cs := by
  obtain ⟨t, kb, cd, N2, vs, h1, h2, h3, h4, h5⟩ := S
  exact ⟨t, kb, cd, N2, vs, h1.ext E, h2.ext E, h3.ext E, h4.ext E, h5⟩
theorem Str.exa (S : Str Z h x cs) : Exa Z h x ST := by
  obtain ⟨t, kb, cd, N2, vs, h1, h2, h3, h4, h5⟩ := S
  exact h1
/-- nothing but an object of another class is written -/
theorem Str.keepE (S : Str Z h x cs) (K : Keep h h' [a]) (E : Exa Z h a C) (hC : C ≠ ST) (wi : (Cond.instantiable C n).before a0 Z = true) : Str Z h' x cs := by
  obtain ⟨t, kb, cd, N2, vs, h1, h2, h3, h4, h5⟩ := S
  have q1 : x ≠ a := (ne_exa E h1 hC).symm
  have q2 : t ≠ a := (Exa.neArv E h4 wi).symm
  exact ⟨t, kb, cd, N2, vs, h1.keep K, h2.keep K (ninS q1 nin0), h3.keep K (ninS q1 nin0), h4.keep K (ninS q2 nin0), h5⟩
/-- the statics of String, as the sheet says them -/
def Stat (Z : State) (z : Int32) : Prop := Sta Z Z.heap ST "COMPACT_STRINGS" "Z" (.int z) ∧ ¬ z = 0
end S
end Jvm.Pilot.@@N@@
namespace Jvm.Pilot.@@N@@
open Jvm Jvm.ClassFile Sem Op Lib Jvm.Free Jvm.Stand Jvm.LawKit Jvm.RoadKit Bundle Jvm.Own Jvm.Pilot.@@N@@.Jvm.D
theorem own_le {Z : State} {n0 : Nat} {h : Heap} (O : Old Z n0 h) : n0 ≤ h.size := O.1 ▸ O.2.1
theorem own_nc (x : Int32) : narrow .char (.int x.toUInt32.toUInt16.toUInt32.toInt32) = .int x.toUInt32.toUInt16.toUInt32.toInt32 := Jvm.Free.XT.narrow_c x
theorem own_nar (x : Int32) : nar .char x.toUInt32.toUInt16.toUInt32.toInt32 = x.toUInt32.toUInt16.toUInt32.toInt32 := by simp only [nar, UInt32.toUInt32_toInt32, UInt16.toUInt16_toUInt32]
theorem own_EW {Z : State} {a0 : Array Value} (hw : ∀ d ∈ tables_1, d.before a0 Z = true) : EW Z a0 EL0 := EW.cons (text := "") (hw _ (List.mem_of_getElem? (i := 20) rfl)) (by simp) EW.nil
theorem own_atoms : ∀ d ∈ Bundle.stringAtoms, d ∈ tables_1 := by decide +kernel
theorem own_wS {Z : State} {a0 : Array Value} (hw : ∀ d ∈ tables_1, d.before a0 Z = true) : ∀ d ∈ Bundle.stringAtoms, d.before a0 Z = true := fun d hd => hw d (own_atoms d hd)
def QS (Z : State) (x : Addr) (cs : List Int32) (n0 : Nat) (h0 : Heap) (v : Option Value) (h : Heap) (L : List Loc) : Prop := v = none ∧ Fr n0 L ∧ Keep h0 h [x] ∧ Str Z h x cs
theorem d3_0 : decode jdk_42_method_149_code 0 = .ok (.aload_n 0, 1) := by decide +kernel
theorem d3_1 : decode jdk_42_method_149_code 1 = .ok (.invokespecial 1, 3) := by decide +kernel
theorem d3_4 : decode jdk_42_method_149_code 4 = .ok (.iload_n 3, 1) := by decide +kernel
theorem d3_5 : decode jdk_42_method_149_code 5 = .ok (.ifCond .ne 22, 3) := by decide +kernel
theorem d3_8 : decode jdk_42_method_149_code 8 = .ok (.aload_n 0, 1) := by decide +kernel
theorem d3_9 : decode jdk_42_method_149_code 9 = .ok (.ldc 7, 2) := by decide +kernel
theorem d3_11 : decode jdk_42_method_149_code 11 = .ok (.getfield 9, 3) := by decide +kernel
theorem d3_14 : decode jdk_42_method_149_code 14 = .ok (.putfield 9, 3) := by decide +kernel
theorem d3_17 : decode jdk_42_method_149_code 17 = .ok (.aload_n 0, 1) := by decide +kernel
theorem d3_18 : decode jdk_42_method_149_code 18 = .ok (.ldc 7, 2) := by decide +kernel
theorem d3_20 : decode jdk_42_method_149_code 20 = .ok (.getfield 15, 3) := by decide +kernel
theorem d3_23 : decode jdk_42_method_149_code 23 = .ok (.putfield 15, 3) := by decide +kernel
theorem d3_26 : decode jdk_42_method_149_code 26 = .ok (.return_, 1) := by decide +kernel
theorem pn_0 : plainFor (⟨"java/lang/String", "<init>", "([CIILjava/lang/Void;)V"⟩ : MethodName) = true := by first | exact plainFor_of_name (by first | (simp [plainName, overriddenIn]; done) | decide +kernel) | decide +kernel
theorem ef_AAIIN_6 (m : MethodId) (y0 : Addr) (y1 : Addr) (y2 : Int32) (y3 : Int32) : entryFrame m #[(.ref y0), (.ref y1), (.int y2), (.int y3), .null] 6 = mkF m 0 #[.val (.ref y0), .val (.ref y1), .val (.int y2), .val (.int y3), .val .null, .unset] [] := by first | (simp [entryFrame, mkF, argsToLocals, Value.category]; done) | rfl
set_option maxRecDepth 65536 in
set_option maxHeartbeats 40000000 in
theorem met_new4e (l : Launch) (Z : State) (a0 : Array Value) (hw : ∀ d ∈ tables_1, d.before a0 Z = true) (ws : List Jvm.Cond) (n0 : Nat) (x b : Addr) (h0 : Heap) (O : Old Z n0 h0) (ge_x : n0 ≤ x) (A_x : Exa Z h0 x ST) (F_x_value : Fld Z h0 x ST "value" "[B" .null) (F_x_coder : Fld Z h0 x ST "coder" "B" (.int (0 : Int32))) :
    MetFree l (⟨"java/lang/String", "<init>", "([CIILjava/lang/Void;)V"⟩ : MethodName) (head1 (Jvm.Cond.code (⟨"java/lang/String", "<init>", "([CIILjava/lang/Void;)V"⟩ : MethodName) jdk_42_method_149_code 6 none :: ws) ({ frames := 1, cells := 4, slots := 8, locals := 12 } : Room)) (fun aa U => aa = #[(.ref x), (.ref b), (.int (0 : Int32)), (.int (0 : Int32)), .null] ∧ Z.Warmed39 U.vm ∧ U.heap = h0 ∧ CHv Z EL0 U.vm h0) (fun _ _ _ _ _ => True) (fun _ U o U' => ∃ v L, o = .returned v ∧ QS Z x [] n0 h0 v U'.heap L ∧ CHr Z EL0 U.vm U.heap U'.vm U'.heap ∧ ReturnedEndW U o U' L ({ frames := 1, cells := 4, slots := 8, locals := 12 } : Room).cells ({ frames := 1, cells := 4, slots := 8, locals := 12 } : Room).slots) := by
  refine openH (y := (⟨"java/lang/String", "<init>", "([CIILjava/lang/Void;)V"⟩ : MethodName)) pn_0 ?_
  intro p e s m below meth c T vm hx hby hml hret hlk hnm hZ hown X hT H
  have hEL := own_EW hw
  refine Go.st (fun _ k => castTop (ef_AAIIN_6 m x b (0 : Int32) (0 : Int32)) k) ?_
  show Go p e below _ (T.setTop (mkF m 0 #[.val (.ref x), .val (.ref b), .val (.int (0 : Int32)), .val (.int (0 : Int32)), .val .null, .unset] []))
  have N := Fr.nil n0
  have Sf_x : Safe Z EL0 vm h0 x := Safe.blank hZ.alike A_x F_x_value
  refine Go.st (fun _ k => XS.aloadN X.here hx rfl (hb hby d3_0) rfl rfl k) ?_
  show Go p e below _ (T.setTop (mkF m 1 #[.val (.ref x), .val (.ref b), .val (.int (0 : Int32)), .val (.int (0 : Int32)), .val .null, .unset] [(.ref x)]))
  obtain ⟨T, X, hT, st⟩ := initO X hx hZ hown (hw _ (List.mem_of_getElem? (i := 17) rfl)) (hw _ (List.mem_of_getElem? (i := 18) rfl)) (hw _ (List.mem_of_getElem? (i := 19) rfl)) hT (g := (mkF m 1 #[.val (.ref x), .val (.ref b), .val (.int (0 : Int32)), .val (.int (0 : Int32)), .val .null, .unset] [(.ref x)])) rfl (by rw [hml]; rfl) rfl (hb hby d3_1) (by decide) (W := 0) (by show 2 * 0 + _ ≤ _; exact Nat.le_of_ble_eq_true rfl) (by decide)
  refine Go.st st ?_
  show Go p e below _ (T.setTop (mkF m 4 #[.val (.ref x), .val (.ref b), .val (.int (0 : Int32)), .val (.int (0 : Int32)), .val .null, .unset] []))
  refine Go.st (fun _ k => XS.iloadN X.here hx rfl (hb hby d3_4) rfl k) ?_
  show Go p e below _ (T.setTop (mkF m 5 #[.val (.ref x), .val (.ref b), .val (.int (0 : Int32)), .val (.int (0 : Int32)), .val .null, .unset] [(.int (0 : Int32))]))
  refine Go.st (fun _ k => XS.ifNo X.here hx rfl (hb hby d3_5) rfl (Jvm.Free.XT.i0_ne_f (by decide : (0 : Int32) = (0 : Int32))) k) ?_
  show Go p e below _ (T.setTop (mkF m 8 #[.val (.ref x), .val (.ref b), .val (.int (0 : Int32)), .val (.int (0 : Int32)), .val .null, .unset] []))
  refine Go.st (fun _ k => XS.aloadN X.here hx rfl (hb hby d3_8) rfl rfl k) ?_
  show Go p e below _ (T.setTop (mkF m 9 #[.val (.ref x), .val (.ref b), .val (.int (0 : Int32)), .val (.int (0 : Int32)), .val .null, .unset] [(.ref x)]))
  refine Go.ldcS (text := "") (vs := []) (z := (0 : Int32)) (n := 0) H X hx hZ hown hT (hw _ (List.mem_of_getElem? (i := 20) rfl)) (own_wS hw) hEL (List.mem_of_getElem? (i := 0) rfl) ⟨by simp, by simp⟩ (by decide) (by decide) (hb hby d3_9) (by decide) (by decide) (by decide) (by decide) ?_
  intro r1 T h1 vm b_r1 k_r1 hT Ex0 hZ hown H Rc LE LC LV LA X
  have Sf_x := Rc.safe A_x.lt Sf_x
  have A_x := A_x.ext Ex0
  have F_x_value := F_x_value.ext Ex0
  have F_x_coder := F_x_coder.ext Ex0
  have KB := (Keep.refl h0 [x]).ext Ex0
  have LE_r1 := LE
  have LC_r1 := LC
  have LV_r1 := LV
  have LA_r1 := LA
  have ne_x_r1 : x ≠ b_r1 := Exa.neArv A_x LA_r1 (hw _ (List.mem_of_getElem? (i := 7) rfl))
  show Go p e below _ (T.setTop (mkF m 11 #[.val (.ref x), .val (.ref b), .val (.int (0 : Int32)), .val (.int (0 : Int32)), .val .null, .unset] [(.ref r1), (.ref x)]))
  obtain ⟨T, X, hT, st⟩ := getF X hx hZ hown (host := "") (Or.inl (hw _ (List.mem_of_getElem? (i := 26) rfl))) Via.refl hT LV_r1 (g := (mkF m 11 #[.val (.ref x), .val (.ref b), .val (.int (0 : Int32)), .val (.int (0 : Int32)), .val .null, .unset] [(.ref r1), (.ref x)])) rfl rfl (hb hby d3_11)
  refine Go.st st ?_
  show Go p e below _ (T.setTop (mkF m 14 #[.val (.ref x), .val (.ref b), .val (.int (0 : Int32)), .val (.int (0 : Int32)), .val .null, .unset] [(.ref b_r1), (.ref x)]))
  obtain ⟨T, h2, X, hT, Wr0, st⟩ := putF X hx hZ hown (host := "") (Or.inl (hw _ (List.mem_of_getElem? (i := 26) rfl))) Via.refl hT F_x_value A_x (Or.inr ⟨(hw _ (List.mem_of_getElem? (i := 22) rfl)), rfl, hnm⟩) (hw _ (List.mem_of_getElem? (i := 7) rfl)) (ty := (.array .byte)) (by decide) rfl rfl (g := (mkF m 14 #[.val (.ref x), .val (.ref b), .val (.int (0 : Int32)), .val (.int (0 : Int32)), .val .null, .unset] [(.ref b_r1), (.ref x)])) rfl rfl (hb hby d3_14)
  refine Go.st st ?_
  have N := Fr.snoc X N ge_x
  have Sf0 := Sf_x
  have Sf_x := Safe.wr Wr0 Sf0 H.2.1 Sf0
  have H := H.wr Wr0 Sf0
  have A_x := A_x.wr Wr0
  have F_x_value := F_x_value.same Wr0
  have F_x_coder := F_x_coder.other Wr0 (Or.inr (slot_ne (C := "java/lang/String") (Or.inr (hw _ (List.mem_of_getElem? (i := 23) rfl))) (Or.inr (hw _ (List.mem_of_getElem? (i := 22) rfl))) (by decide) (t := .byte) (by decide) (t' := (.array .byte)) (by decide)))
  have LA_r1 := LA_r1.other Wr0 ne_x_r1.symm
  have KB := (KB).wr Wr0 (Or.inl (List.mem_of_getElem? (i := 0) rfl))
  show Go p e below _ (T.setTop (mkF m 17 #[.val (.ref x), .val (.ref b), .val (.int (0 : Int32)), .val (.int (0 : Int32)), .val .null, .unset] []))
  refine Go.st (fun _ k => XS.aloadN X.here hx rfl (hb hby d3_17) rfl rfl k) ?_
  show Go p e below _ (T.setTop (mkF m 18 #[.val (.ref x), .val (.ref b), .val (.int (0 : Int32)), .val (.int (0 : Int32)), .val .null, .unset] [(.ref x)]))
  refine Go.ldcS (text := "") (vs := []) (z := (0 : Int32)) (n := 0) H X hx hZ hown hT (hw _ (List.mem_of_getElem? (i := 20) rfl)) (own_wS hw) hEL (List.mem_of_getElem? (i := 0) rfl) ⟨by simp, by simp⟩ (by decide) (by decide) (hb hby d3_18) (by decide) (by decide) (by decide) (by decide) ?_
  intro r2 T h3 vm b_r2 k_r2 hT Ex0 hZ hown H Rc LE LC LV LA X
  have Sf_x := Rc.safe A_x.lt Sf_x
  have A_x := A_x.ext Ex0
  have F_x_value := F_x_value.ext Ex0
  have F_x_coder := F_x_coder.ext Ex0
  have LA_r1 := LA_r1.ext Ex0
  have KB := (KB).ext Ex0
  have LE_r2 := LE
  have LC_r2 := LC
  have LV_r2 := LV
  have LA_r2 := LA
  have ne_x_r2 : x ≠ b_r2 := Exa.neArv A_x LA_r2 (hw _ (List.mem_of_getElem? (i := 7) rfl))
  show Go p e below _ (T.setTop (mkF m 20 #[.val (.ref x), .val (.ref b), .val (.int (0 : Int32)), .val (.int (0 : Int32)), .val .null, .unset] [(.ref r2), (.ref x)]))
  obtain ⟨T, X, hT, st⟩ := getF X hx hZ hown (host := "") (Or.inl (hw _ (List.mem_of_getElem? (i := 27) rfl))) Via.refl hT LC_r2 (g := (mkF m 20 #[.val (.ref x), .val (.ref b), .val (.int (0 : Int32)), .val (.int (0 : Int32)), .val .null, .unset] [(.ref r2), (.ref x)])) rfl rfl (hb hby d3_20)
  refine Go.st st ?_
  show Go p e below _ (T.setTop (mkF m 23 #[.val (.ref x), .val (.ref b), .val (.int (0 : Int32)), .val (.int (0 : Int32)), .val .null, .unset] [(.int (0 : Int32)), (.ref x)]))
  obtain ⟨T, h4, X, hT, Wr0, st⟩ := putF X hx hZ hown (host := "") (Or.inl (hw _ (List.mem_of_getElem? (i := 27) rfl))) Via.refl hT F_x_coder A_x (Or.inr ⟨(hw _ (List.mem_of_getElem? (i := 23) rfl)), rfl, hnm⟩) (hw _ (List.mem_of_getElem? (i := 7) rfl)) (ty := .byte) (by decide) rfl rfl (g := (mkF m 23 #[.val (.ref x), .val (.ref b), .val (.int (0 : Int32)), .val (.int (0 : Int32)), .val .null, .unset] [(.int (0 : Int32)), (.ref x)])) rfl rfl (hb hby d3_23)
  refine Go.st st ?_
  have N := Fr.snoc X N ge_x
  have Sf0 := Sf_x
  have Sf_x := Safe.wr Wr0 Sf0 H.2.1 Sf0
  have H := H.wr Wr0 Sf0
  have A_x := A_x.wr Wr0
  have F_x_value := F_x_value.other Wr0 (Or.inr (slot_ne (C := "java/lang/String") (Or.inr (hw _ (List.mem_of_getElem? (i := 22) rfl))) (Or.inr (hw _ (List.mem_of_getElem? (i := 23) rfl))) (by decide) (t := (.array .byte)) (by decide) (t' := .byte) (by decide)))
  have F_x_coder := F_x_coder.same Wr0
  have LA_r1 := LA_r1.other Wr0 ne_x_r1.symm
  have LA_r2 := LA_r2.other Wr0 ne_x_r2.symm
  have KB := (KB).wr Wr0 (Or.inl (List.mem_of_getElem? (i := 0) rfl))
  show Go p e below _ (T.setTop (mkF m 26 #[.val (.ref x), .val (.ref b), .val (.int (0 : Int32)), .val (.int (0 : Int32)), .val .null, .unset] []))
  refine Go.retVH hEL H hZ X hx hlk hT hret (hb hby d3_26) (by decide) (by decide) ?_
  exact ⟨rfl, N, KB, b_r1, k_r1, (0 : Int32), (0 : Int32), [], A_x, F_x_value, F_x_coder, LA_r1, Or.inl ⟨rfl, rfl, rfl, (fun _ q => nomatch q)⟩, (fun _ q => nomatch q), Nat.zero_le _⟩
theorem pd_0 : parseMethodDescriptor "([CIILjava/lang/Void;)V" = some ⟨[(.array .char), .int, .int, (.object "java/lang/Void")], none⟩ := by decide +kernel
theorem d2_0 : decode jdk_42_method_3_code 0 = .ok (.aload_n 0, 1) := by decide +kernel
theorem d2_1 : decode jdk_42_method_3_code 1 = .ok (.aload_n 1, 1) := by decide +kernel
theorem d2_2 : decode jdk_42_method_3_code 2 = .ok (.iconst 0, 1) := by decide +kernel
theorem d2_3 : decode jdk_42_method_3_code 3 = .ok (.aload_n 1, 1) := by decide +kernel
theorem d2_4 : decode jdk_42_method_3_code 4 = .ok (.arraylength, 1) := by decide +kernel
theorem d2_5 : decode jdk_42_method_3_code 5 = .ok (.aconst_null, 1) := by decide +kernel
theorem d2_6 : decode jdk_42_method_3_code 6 = .ok (.invokespecial 27, 3) := by decide +kernel
theorem d2_9 : decode jdk_42_method_3_code 9 = .ok (.return_, 1) := by decide +kernel
theorem pn_1 : plainFor (⟨"java/lang/String", "<init>", "([C)V"⟩ : MethodName) = true := by first | exact plainFor_of_name (by first | (simp [plainName, overriddenIn]; done) | decide +kernel) | decide +kernel
theorem ef_AA_2 (m : MethodId) (y0 : Addr) (y1 : Addr) : entryFrame m #[(.ref y0), (.ref y1)] 2 = mkF m 0 #[.val (.ref y0), .val (.ref y1)] [] := by first | (simp [entryFrame, mkF, argsToLocals, Value.category]; done) | rfl
set_option maxRecDepth 65536 in
set_option maxHeartbeats 40000000 in
theorem met_new1e (l : Launch) (Z : State) (a0 : Array Value) (hw : ∀ d ∈ tables_1, d.before a0 Z = true) (ws : List Jvm.Cond) (n0 : Nat) (x b : Addr) (kC : ClassId) (h0 : Heap) (O : Old Z n0 h0) (ge_x : n0 ≤ x) (A_x : Exa Z h0 x ST) (F_x_value : Fld Z h0 x ST "value" "[B" .null) (F_x_coder : Fld Z h0 x ST "coder" "B" (.int (0 : Int32))) (Kb : Arv Z h0 b kC .char (0 : Int32) [] (.int 0)) :
    MetFree l (⟨"java/lang/String", "<init>", "([C)V"⟩ : MethodName) (head1 (Jvm.Cond.code (⟨"java/lang/String", "<init>", "([C)V"⟩ : MethodName) jdk_42_method_3_code 2 none :: ws) ({ frames := 2, cells := 4, slots := 8, locals := 29 } : Room)) (fun aa U => aa = #[(.ref x), (.ref b)] ∧ Z.Warmed39 U.vm ∧ U.heap = h0 ∧ CHv Z EL0 U.vm h0) (fun _ _ _ _ _ => True) (fun _ U o U' => ∃ v L, o = .returned v ∧ QS Z x [] n0 h0 v U'.heap L ∧ CHr Z EL0 U.vm U.heap U'.vm U'.heap ∧ ReturnedEndW U o U' L ({ frames := 2, cells := 4, slots := 8, locals := 29 } : Room).cells ({ frames := 2, cells := 4, slots := 8, locals := 29 } : Room).slots) := by
  refine openH (y := (⟨"java/lang/String", "<init>", "([C)V"⟩ : MethodName)) pn_1 ?_
  intro p e s m below meth c T vm hx hby hml hret hlk hnm hZ hown X hT H
  have hEL := own_EW hw
  refine Go.st (fun _ k => castTop (ef_AA_2 m x b) k) ?_
  show Go p e below _ (T.setTop (mkF m 0 #[.val (.ref x), .val (.ref b)] []))
  refine Go.st (fun _ k => XS.aloadN X.here hx rfl (hb hby d2_0) rfl rfl k) ?_
  show Go p e below _ (T.setTop (mkF m 1 #[.val (.ref x), .val (.ref b)] [(.ref x)]))
  refine Go.st (fun _ k => XS.aloadN X.here hx rfl (hb hby d2_1) rfl rfl k) ?_
  show Go p e below _ (T.setTop (mkF m 2 #[.val (.ref x), .val (.ref b)] [(.ref b), (.ref x)]))
  refine Go.st (fun _ k => XS.iconst X.here hx rfl (hb hby d2_2) k) ?_
  show Go p e below _ (T.setTop (mkF m 3 #[.val (.ref x), .val (.ref b)] [(.int (0 : Int32)), (.ref b), (.ref x)]))
  refine Go.st (fun _ k => XS.aloadN X.here hx rfl (hb hby d2_3) rfl rfl k) ?_
  show Go p e below _ (T.setTop (mkF m 4 #[.val (.ref x), .val (.ref b)] [(.ref b), (.int (0 : Int32)), (.ref b), (.ref x)]))
  obtain ⟨cl0, Ar0, q0, S0, M0, H0, U0⟩ := id Kb
  refine Go.st (fun _ k => X.arraylength hx (by rw [hT]; exact Ar0.1) (State.isArrayOf_alike hZ.alike Ar0.2.1) (g := (mkF m 4 #[.val (.ref x), .val (.ref b)] [(.ref b), (.int (0 : Int32)), (.ref b), (.ref x)])) rfl rfl (hb hby d2_4) _ k) ?_
  rw [len_of S0 M0]
  show Go p e below _ (T.setTop (mkF m 5 #[.val (.ref x), .val (.ref b)] [(.int (0 : Int32)), (.int (0 : Int32)), (.ref b), (.ref x)]))
  refine Go.st (fun _ k => XS.aconstNull X.here hx rfl (hb hby d2_5) k) ?_
  show Go p e below _ (T.setTop (mkF m 6 #[.val (.ref x), .val (.ref b)] [.null, (.int (0 : Int32)), (.int (0 : Int32)), (.ref b), (.ref x)]))
  refine Go.specH (argsL := [(.ref b), (.int (0 : Int32)), (.int (0 : Int32)), .null]) (rest := []) (W := 0) (ck := 4) (sk := 8) H X hx hZ hown (hml.trans rfl) hT rfl (hw _ (List.mem_of_getElem? (i := 13) rfl)) (hw _ (List.mem_of_getElem? (i := 14) rfl)) (hw _ (List.mem_of_getElem? (i := 16) rfl)) (by decide) pd_0 rfl rfl (Nat.le_of_ble_eq_true rfl) (hb hby d2_6) (backOfSH (W := 0) (met_new4e l Z a0 hw [] n0 x b _ O ge_x A_x F_x_value F_x_coder) hZ (hw _ (List.mem_of_getElem? (i := 16) rfl)) (hw _ (List.mem_of_getElem? (i := 8) rfl)) (by decide) (by decide) hEL H.2.1) (by decide) (by decide) ?_
  intro v T h1 L vm hT hQ hZ hown H Rc X
  obtain ⟨rfl, N, KB, S⟩ := hQ
  show Go p e below _ (T.setTop (mkF m 9 #[.val (.ref x), .val (.ref b)] []))
  refine Go.retVH hEL H hZ X hx hlk hT hret (hb hby d2_9) (by decide) (by decide) ?_
  exact ⟨rfl, N, KB, S⟩
open StrChars in
abbrev lows (cs : List Int32) : List Value := cs.map fun c => Value.int (lo8 c)
open StrChars StrChars.Road in
theorem own_wlen : ∀ cs : List Int32, (wideBytes cs).length = 2 * cs.length
  | [] => rfl
  | c :: cs => by simp [wideBytes, own_wlen cs]; omega
open StrChars StrChars.Road in
theorem own_wapp : ∀ (cs : List Int32) (c : Int32), wideBytes (cs ++ [c]) = wideBytes cs ++ [.int (lo8 c), .int (hi8 c)]
  | [], c => rfl
  | d :: cs, c => by simp [wideBytes, own_wapp cs c]
theorem own_set1 (L : List Value) (z v : Value) : (L ++ [z]).set L.length v = L ++ [v] := by simp [List.set_append]
theorem own_set2 (L : List Value) (z y v u : Value) : ((L ++ [z, y]).set L.length v).set (L.length + 1) u = L ++ [v, u] := by simp [List.set_append]
theorem own_take (cs : List Int32) (i : Nat) (h : i < cs.length) : cs.take (i + 1) = cs.take i ++ [cs.getD i 0] := by
  rw [List.take_add_one, List.getD_eq_getElem?_getD, List.getElem?_eq_getElem h]; rfl
theorem own_ats (cs : List Int32) (i : Nat) (h : i < cs.length) : (cs.map Value.int).getD i (.int 0) = .int (cs.getD i 0) := by
  simp [List.getD_eq_getElem?_getD, h]
/-- what holds of StringUTF16's statics -/
def St16 (Z : State) : Prop := Sta Z Z.heap "java/lang/StringUTF16" "$assertionsDisabled" "Z" (.int 1) ∧ Sta Z Z.heap "java/lang/StringUTF16" "HI_BYTE_SHIFT" "I" (.int 0) ∧ Sta Z Z.heap "java/lang/StringUTF16" "LO_BYTE_SHIFT" "I" (.int 8)
theorem own_st6 {z0 z1 z2 z3 z4 z5 : Value} {s6 : Slot} {v : Int32} (h : One s6) : storeLocals #[.val z0, .val z1, .val z2, .val z3, .val z4, .val z5, s6] 6 (.int v) = some #[.val z0, .val z1, .val z2, .val z3, .val z4, .val z5, .val (.int v)] := by
  rcases h with rfl | ⟨w, rfl, hw⟩
  · rfl
  · cases w <;> first | rfl | (simp [Value.category] at hw)
/-- how many chars from the left are below 256 -/
def fstW : List Int32 → Nat
  | [] => 0
  | c :: cs => if (255 : Int32) < c then 0 else fstW cs + 1
theorem fstW_le : ∀ cs : List Int32, fstW cs ≤ cs.length
  | [] => Nat.le_refl _
  | c :: cs => by rw [fstW]; split <;> simp [fstW_le cs]
theorem fstW_stop : ∀ (cs : List Int32) (i : Nat), i < cs.length → (∀ c ∈ cs.take i, ¬ (255 : Int32) < c) → (255 : Int32) < cs.getD i 0 → fstW cs = i
  | [], i, h, _, _ => absurd h (Nat.not_lt_zero _)
  | c :: cs, 0, _, _, q => by rw [fstW, if_pos (by simpa using q)]
  | c :: cs, i + 1, h, a, q => by
    rw [fstW, if_neg (a c (by simp)), fstW_stop cs i (by simpa using h) (fun d hd => a d (by simp [hd])) (by simpa using q)]
theorem fstW_all : ∀ (cs : List Int32), (∀ c ∈ cs, ¬ (255 : Int32) < c) → fstW cs = cs.length
  | [], _ => rfl
  | c :: cs, a => by rw [fstW, if_neg (a c (by simp)), fstW_all cs (fun d hd => a d (by simp [hd]))]; rfl
theorem fstW_eq : ∀ (cs : List Int32), fstW cs = cs.length → ∀ c ∈ cs, ¬ (255 : Int32) < c
  | [], _ => fun _ q => nomatch q
  | c :: cs, h => by
    rw [fstW] at h
    split at h
    · simp at h
    · rename_i q
      intro d hd
      rcases List.mem_cons.mp hd with rfl | hd
      · exact q
      · exact fstW_eq cs (by simpa using h) d hd
theorem fstW_lt : ∀ (cs : List Int32), fstW cs ≠ cs.length → fstW cs < cs.length ∧ (255 : Int32) < cs.getD (fstW cs) 0
  | [], h => absurd rfl h
  | c :: cs, h => by
    rw [fstW] at h ⊢
    split
    · rename_i q; exact ⟨by simp, by simpa using q⟩
    · rename_i q
      rw [if_neg q] at h
      have := fstW_lt cs (fun z => h (by simp [z]))
      exact ⟨by simpa using this.1, by simpa using this.2⟩
def f_nbl (n : Int32) : Int32 := (n <<< ((1 : Int32) &&& 31))
theorem d10_0 : decode jdk_52_method_3_code 0 = .ok (.iload_n 0, 1) := by decide +kernel
theorem d10_1 : decode jdk_52_method_3_code 1 = .ok (.ifCond .ge 11, 3) := by decide +kernel
theorem d10_12 : decode jdk_52_method_3_code 12 = .ok (.iload_n 0, 1) := by decide +kernel
theorem d10_13 : decode jdk_52_method_3_code 13 = .ok (.ldc 20, 2) := by decide +kernel
theorem d10_15 : decode jdk_52_method_3_code 15 = .ok (.if_icmp .lt 40, 3) := by decide +kernel
theorem d10_55 : decode jdk_52_method_3_code 55 = .ok (.iload_n 0, 1) := by decide +kernel
theorem d10_56 : decode jdk_52_method_3_code 56 = .ok (.iconst 1, 1) := by decide +kernel
theorem d10_57 : decode jdk_52_method_3_code 57 = .ok (.ishl, 1) := by decide +kernel
theorem d10_58 : decode jdk_52_method_3_code 58 = .ok (.ireturn, 1) := by decide +kernel
theorem pn_2 : plainFor (⟨"java/lang/StringUTF16", "newBytesLength", "(I)I"⟩ : MethodName) = true := by first | exact plainFor_of_name (by first | (simp [plainName, overriddenIn]; done) | decide +kernel) | decide +kernel
theorem ef_I_1 (m : MethodId) (y0 : Int32) : entryFrame m #[(.int y0)] 1 = mkF m 0 #[.val (.int y0)] [] := by first | (simp [entryFrame, mkF, argsToLocals, Value.category]; done) | rfl
set_option maxRecDepth 65536 in
set_option maxHeartbeats 40000000 in
theorem met_nbl (l : Launch) (Z : State) (a0 : Array Value) (hw : ∀ d ∈ tables_1, d.before a0 Z = true) (ws : List Jvm.Cond) (n : Int32) (h0 : Heap) (hn0 : ¬ (n < (0 : Int32))) (hn1 : n < (1073741823 : Int32)) :
    MetFree l (⟨"java/lang/StringUTF16", "newBytesLength", "(I)I"⟩ : MethodName) (head1 (Jvm.Cond.code (⟨"java/lang/StringUTF16", "newBytesLength", "(I)I"⟩ : MethodName) jdk_52_method_3_code 1 (some .int) :: ws) ({ frames := 0, cells := 0, slots := 0, locals := 0 } : Room)) (fun aa U => aa = #[(.int n)] ∧ Z.Warmed39 U.vm ∧ U.heap = h0) (fun _ _ _ _ _ => True) (fun _ U o U' => ∃ v L, o = .returned v ∧ QV (.int (f_nbl n)) h0 v U'.heap L ∧ FrameEnd U o U' L ({ frames := 0, cells := 0, slots := 0, locals := 0 } : Room).cells ({ frames := 0, cells := 0, slots := 0, locals := 0 } : Room).slots) := by
  refine openP (y := (⟨"java/lang/StringUTF16", "newBytesLength", "(I)I"⟩ : MethodName)) pn_2 ?_
  intro p e s m below meth c T hx hby hml hret hlk hnm hZ hown X hT
  refine Go.st (fun _ k => castTop (ef_I_1 m n) k) ?_
  show Go p e below _ (T.setTop (mkF m 0 #[.val (.int n)] []))
  refine Go.st (fun _ k => XS.iloadN X.here hx rfl (hb hby d10_0) rfl k) ?_
  show Go p e below _ (T.setTop (mkF m 1 #[.val (.int n)] [(.int n)]))
  refine Go.st (fun _ k => XS.ifYes X.here hx rfl (pc0 := 1) (pc' := 12) rfl (hb hby d10_1) rfl (Jvm.Free.XT.i0_ge_t (hn0 : ¬ (n < (0 : Int32)))) (by decide) (by decide) k) ?_
  show Go p e below _ (T.setTop (mkF m 12 #[.val (.int n)] []))
  refine Go.st (fun _ k => XS.iloadN X.here hx rfl (hb hby d10_12) rfl k) ?_
  show Go p e below _ (T.setTop (mkF m 13 #[.val (.int n)] [(.int n)]))
  refine Go.st (fun _ k => X.ldcI hx hown (mvT hZ (hw _ (List.mem_of_getElem? (i := 49) rfl))) rfl (hb hby d10_13) k) ?_
  show Go p e below _ (T.setTop (mkF m 15 #[.val (.int n)] [(.int (1073741823 : Int32)), (.int n)]))
  refine Go.st (fun _ k => XS.icmpYes X.here hx rfl (pc0 := 15) (pc' := 55) rfl (hb hby d10_15) rfl (Jvm.Free.XT.ii_lt_t (hn1 : n < (1073741823 : Int32))) (by decide) (by decide) k) ?_
  show Go p e below _ (T.setTop (mkF m 55 #[.val (.int n)] []))
  refine Go.st (fun _ k => XS.iloadN X.here hx rfl (hb hby d10_55) rfl k) ?_
  show Go p e below _ (T.setTop (mkF m 56 #[.val (.int n)] [(.int n)]))
  refine Go.st (fun _ k => XS.iconst X.here hx rfl (hb hby d10_56) k) ?_
  show Go p e below _ (T.setTop (mkF m 57 #[.val (.int n)] [(.int (1 : Int32)), (.int n)]))
  refine Go.st (fun _ k => XS.ishl X.here hx rfl (hb hby d10_57) rfl k) ?_
  show Go p e below _ (T.setTop (mkF m 58 #[.val (.int n)] [(.int (n <<< ((1 : Int32) &&& 31)))]))
  refine Go.ret X hx hlk hT hret rfl (riI (by simp)) (hb hby d10_58) (by decide) (by decide) ?_
  exact ⟨congrArg (fun z => some (Value.int z)) (by rw [f_nbl]), rfl, rfl⟩
theorem pd_1 : parseMethodDescriptor "(I)I" = some ⟨[.int], (some .int)⟩ := by decide +kernel
def QNf (Z : State) (n : Nat) (h0 : Heap) (v : Option Value) (h : Heap) (L : List Loc) : Prop := ∃ (r : Addr) (kr : ClassId), v = some (.ref r) ∧ L = [] ∧ r = h0.size ∧ Ext h0 h ∧ Arv Z h r kr .byte (Int32.ofNat (2 * n)) [] (.int 0)
theorem d9_0 : decode jdk_52_method_2_code 0 = .ok (.iload_n 0, 1) := by decide +kernel
theorem d9_1 : decode jdk_52_method_2_code 1 = .ok (.invokestatic 11, 3) := by decide +kernel
theorem d9_4 : decode jdk_52_method_2_code 4 = .ok (.newarray .byte, 2) := by decide +kernel
theorem d9_6 : decode jdk_52_method_2_code 6 = .ok (.areturn, 1) := by decide +kernel
theorem pn_3 : plainFor (⟨"java/lang/StringUTF16", "newBytesFor", "(I)[B"⟩ : MethodName) = true := by first | exact plainFor_of_name (by first | (simp [plainName, overriddenIn]; done) | decide +kernel) | decide +kernel
set_option maxRecDepth 65536 in
set_option maxHeartbeats 40000000 in
theorem met_nbf (l : Launch) (Z : State) (a0 : Array Value) (hw : ∀ d ∈ tables_1, d.before a0 Z = true) (ws : List Jvm.Cond) (n : Nat) (h0 : Heap) (hn : n ≤ 2) :
    MetFree l (⟨"java/lang/StringUTF16", "newBytesFor", "(I)[B"⟩ : MethodName) (head1 (Jvm.Cond.code (⟨"java/lang/StringUTF16", "newBytesFor", "(I)[B"⟩ : MethodName) jdk_52_method_2_code 1 (some (.array .byte)) :: ws) ({ frames := 1, cells := 1, slots := 4, locals := 12 } : Room)) (fun aa U => aa = #[(.int (Int32.ofNat n))] ∧ Z.Warmed39 U.vm ∧ U.heap = h0) (fun _ _ _ _ _ => True) (fun _ U o U' => ∃ v L, o = .returned v ∧ QNf Z n h0 v U'.heap L ∧ FrameEnd U o U' L ({ frames := 1, cells := 1, slots := 4, locals := 12 } : Room).cells ({ frames := 1, cells := 1, slots := 4, locals := 12 } : Room).slots) := by
  refine openP (y := (⟨"java/lang/StringUTF16", "newBytesFor", "(I)[B"⟩ : MethodName)) pn_3 ?_
  intro p e s m below meth c T hx hby hml hret hlk hnm hZ hown X hT
  refine Go.st (fun _ k => castTop (ef_I_1 m (Int32.ofNat n)) k) ?_
  show Go p e below _ (T.setTop (mkF m 0 #[.val (.int (Int32.ofNat n))] []))
  have hn1 : Int32.ofNat n < (1073741823 : Int32) := (own_lt (by omega) (by decide)).mpr (by omega : n < 1073741823)
  refine Go.st (fun _ k => XS.iloadN X.here hx rfl (hb hby d9_0) rfl k) ?_
  show Go p e below _ (T.setTop (mkF m 1 #[.val (.int (Int32.ofNat n))] [(.int (Int32.ofNat n))]))
  refine Go.callV (argsL := [(.int (Int32.ofNat n))]) (rest := []) (W := 0) X hx hZ hown (hml.trans rfl) hT (hw _ (List.mem_of_getElem? (i := 46) rfl)) (hw _ (List.mem_of_getElem? (i := 47) rfl)) (hw _ (List.mem_of_getElem? (i := 31) rfl)) (hw _ (List.mem_of_getElem? (i := 48) rfl)) (by decide) pd_1 rfl rfl (Nat.le_of_ble_eq_true rfl) (hb hby d9_1) (backOf (W := 0) (met_nbl l Z a0 hw [] (Int32.ofNat n) _ (own_nn (by omega)) hn1) hZ (hw _ (List.mem_of_getElem? (i := 48) rfl)) (hw _ (List.mem_of_getElem? (i := 31) rfl)) (by decide) (by decide)) (by decide) (by decide) ?_
  intro T hT X
  show Go p e below _ (T.setTop (mkF m 4 #[.val (.int (Int32.ofNat n))] [(.int (f_nbl (Int32.ofNat n)))]))
  rw [f_nbl, own_dbl (by omega)]
  show Go p e below _ (T.setTop (mkF m 4 #[.val (.int (Int32.ofNat n))] [(.int (Int32.ofNat (2 * n)))]))
  refine Go.newA (n := 2 * n) (cap := 4) X hx hZ hT (hw _ (List.mem_of_getElem? (i := 21) rfl)) (hb hby d9_4) (by omega) (by omega) (by decide) (by decide) (by decide) ?_
  intro r T h1 kr g_r hT Ex0 V_r X
  show Go p e below _ (T.setTop (mkF m 6 #[.val (.int (Int32.ofNat n))] [(.ref r)]))
  refine Go.ret X hx hlk hT hret rfl (riA rfl rfl) (hb hby d9_6) (by decide) (by decide) ?_
  exact ⟨r, kr, rfl, rfl, g_r, Ex0, V_r⟩
theorem own_b2 (y : Int32) : y.toInt8.toInt32.toInt8.toInt32 = y.toInt8.toInt32 := by simp
theorem own_fr1 {n0 : Nat} {a : Addr} {i : Nat} (q : n0 ≤ a) : Fr n0 [⟨a, i⟩] := fun y hy => by cases List.mem_singleton.mp hy; exact q
open StrChars in
def QPc (Z : State) (n0 : Nat) (d : Addr) (kd : ClassId) (N : Int32) (vs : List Value) (j : Nat) (ch : Int32) (h0 : Heap) (v : Option Value) (h : Heap) (L : List Loc) : Prop := v = none ∧ Fr n0 L ∧ Keep h0 h [d] ∧ Arv Z h d kd .byte N ((vs.set (2 * j) (.int (lo8 ch))).set (2 * j + 1) (.int (hi8 ch))) (.int 0)
theorem d11_0 : decode jdk_52_method_4_code 0 = .ok (.getstatic 44, 3) := by decide +kernel
theorem d11_3 : decode jdk_52_method_4_code 3 = .ok (.ifCond .ne 25, 3) := by decide +kernel
theorem d11_28 : decode jdk_52_method_4_code 28 = .ok (.iload_n 1, 1) := by decide +kernel
theorem d11_29 : decode jdk_52_method_4_code 29 = .ok (.iconst 1, 1) := by decide +kernel
theorem d11_30 : decode jdk_52_method_4_code 30 = .ok (.ishl, 1) := by decide +kernel
theorem d11_31 : decode jdk_52_method_4_code 31 = .ok (.istore_n 1, 1) := by decide +kernel
theorem d11_32 : decode jdk_52_method_4_code 32 = .ok (.aload_n 0, 1) := by decide +kernel
theorem d11_33 : decode jdk_52_method_4_code 33 = .ok (.iload_n 1, 1) := by decide +kernel
theorem d11_34 : decode jdk_52_method_4_code 34 = .ok (.iinc 1 1, 3) := by decide +kernel
theorem d11_37 : decode jdk_52_method_4_code 37 = .ok (.iload_n 2, 1) := by decide +kernel
theorem d11_38 : decode jdk_52_method_4_code 38 = .ok (.getstatic 59, 3) := by decide +kernel
theorem d11_41 : decode jdk_52_method_4_code 41 = .ok (.ishr, 1) := by decide +kernel
theorem d11_42 : decode jdk_52_method_4_code 42 = .ok (.i2b, 1) := by decide +kernel
theorem d11_43 : decode jdk_52_method_4_code 43 = .ok (.bastore, 1) := by decide +kernel
theorem d11_44 : decode jdk_52_method_4_code 44 = .ok (.aload_n 0, 1) := by decide +kernel
theorem d11_45 : decode jdk_52_method_4_code 45 = .ok (.iload_n 1, 1) := by decide +kernel
theorem d11_46 : decode jdk_52_method_4_code 46 = .ok (.iload_n 2, 1) := by decide +kernel
theorem d11_47 : decode jdk_52_method_4_code 47 = .ok (.getstatic 63, 3) := by decide +kernel
theorem d11_50 : decode jdk_52_method_4_code 50 = .ok (.ishr, 1) := by decide +kernel
theorem d11_51 : decode jdk_52_method_4_code 51 = .ok (.i2b, 1) := by decide +kernel
theorem d11_52 : decode jdk_52_method_4_code 52 = .ok (.bastore, 1) := by decide +kernel
theorem d11_53 : decode jdk_52_method_4_code 53 = .ok (.return_, 1) := by decide +kernel
theorem pn_4 : plainFor (⟨"java/lang/StringUTF16", "putChar", "([BII)V"⟩ : MethodName) = true := by first | exact plainFor_of_name (by first | (simp [plainName, overriddenIn]; done) | decide +kernel) | decide +kernel
theorem ef_AII_3 (m : MethodId) (y0 : Addr) (y1 : Int32) (y2 : Int32) : entryFrame m #[(.ref y0), (.int y1), (.int y2)] 3 = mkF m 0 #[.val (.ref y0), .val (.int y1), .val (.int y2)] [] := by first | (simp [entryFrame, mkF, argsToLocals, Value.category]; done) | rfl
set_option maxRecDepth 65536 in
set_option maxHeartbeats 40000000 in
theorem met_putc (l : Launch) (Z : State) (a0 : Array Value) (hw : ∀ d ∈ tables_1, d.before a0 Z = true) (ws : List Jvm.Cond) (n0 : Nat) (d : Addr) (kd : ClassId) (n2 : Nat) (vs : List Value) (j : Nat) (ch : Int32) (h0 : Heap) (O : Old Z n0 h0) (S16 : St16 Z) (ge_d : n0 ≤ d) (V_d : Arv Z h0 d kd .byte (Int32.ofNat n2) vs (.int 0)) (hn2 : n2 ≤ 4) (hj : 2 * j + 1 < n2) (hl : 2 * j + 1 < vs.length) :
    MetFree l (⟨"java/lang/StringUTF16", "putChar", "([BII)V"⟩ : MethodName) (head1 (Jvm.Cond.code (⟨"java/lang/StringUTF16", "putChar", "([BII)V"⟩ : MethodName) jdk_52_method_4_code 3 none :: ws) ({ frames := 0, cells := 0, slots := 0, locals := 0 } : Room)) (fun aa U => aa = #[(.ref d), (.int (Int32.ofNat j)), (.int ch)] ∧ Z.Warmed39 U.vm ∧ U.heap = h0) (fun _ _ _ _ _ => True) (fun _ U o U' => ∃ v L, o = .returned v ∧ QPc Z n0 d kd (Int32.ofNat n2) vs j ch h0 v U'.heap L ∧ FrameEnd U o U' L ({ frames := 0, cells := 0, slots := 0, locals := 0 } : Room).cells ({ frames := 0, cells := 0, slots := 0, locals := 0 } : Room).slots) := by
  refine openP (y := (⟨"java/lang/StringUTF16", "putChar", "([BII)V"⟩ : MethodName)) pn_4 ?_
  intro p e s m below meth c T hx hby hml hret hlk hnm hZ hown X hT
  refine Go.st (fun _ k => castTop (ef_AII_3 m d (Int32.ofNat j) ch) k) ?_
  show Go p e below _ (T.setTop (mkF m 0 #[.val (.ref d), .val (.int (Int32.ofNat j)), .val (.int ch)] []))
  have S0s := O.2
  obtain ⟨T, X, hT, st⟩ := getS2 X hx hZ hown (host := "") (Or.inl (hw _ (List.mem_of_getElem? (i := 53) rfl))) Via.refl hT (S16.1.ext (O.2)) (g := (mkF m 0 #[.val (.ref d), .val (.int (Int32.ofNat j)), .val (.int ch)] [])) rfl (hb hby d11_0)
  refine Go.st st ?_
  show Go p e below _ (T.setTop (mkF m 3 #[.val (.ref d), .val (.int (Int32.ofNat j)), .val (.int ch)] [(.int (1 : Int32))]))
  refine Go.st (fun _ k => XS.ifYes X.here hx rfl (pc0 := 3) (pc' := 28) rfl (hb hby d11_3) rfl (Jvm.Free.XT.i0_ne_t (by decide : ¬ ((1 : Int32) = (0 : Int32)))) (by decide) (by decide) k) ?_
  show Go p e below _ (T.setTop (mkF m 28 #[.val (.ref d), .val (.int (Int32.ofNat j)), .val (.int ch)] []))
  refine Go.st (fun _ k => XS.iloadN X.here hx rfl (hb hby d11_28) rfl k) ?_
  show Go p e below _ (T.setTop (mkF m 29 #[.val (.ref d), .val (.int (Int32.ofNat j)), .val (.int ch)] [(.int (Int32.ofNat j))]))
  refine Go.st (fun _ k => XS.iconst X.here hx rfl (hb hby d11_29) k) ?_
  show Go p e below _ (T.setTop (mkF m 30 #[.val (.ref d), .val (.int (Int32.ofNat j)), .val (.int ch)] [(.int (1 : Int32)), (.int (Int32.ofNat j))]))
  refine Go.st (fun _ k => XS.ishl X.here hx rfl (hb hby d11_30) rfl k) ?_
  show Go p e below _ (T.setTop (mkF m 31 #[.val (.ref d), .val (.int (Int32.ofNat j)), .val (.int ch)] [(.int ((Int32.ofNat j) <<< ((1 : Int32) &&& 31)))]))
  rw [own_dbl (by omega)]
  show Go p e below _ (T.setTop (mkF m 31 #[.val (.ref d), .val (.int (Int32.ofNat j)), .val (.int ch)] [(.int (Int32.ofNat (2 * j)))]))
  refine Go.st (fun _ k => XS.istoreN X.here hx rfl (hb hby d11_31) rfl (l' := #[.val (.ref d), .val (.int (Int32.ofNat (2 * j))), .val (.int ch)]) rfl k) ?_
  show Go p e below _ (T.setTop (mkF m 32 #[.val (.ref d), .val (.int (Int32.ofNat (2 * j))), .val (.int ch)] []))
  refine Go.st (fun _ k => XS.aloadN X.here hx rfl (hb hby d11_32) rfl rfl k) ?_
  show Go p e below _ (T.setTop (mkF m 33 #[.val (.ref d), .val (.int (Int32.ofNat (2 * j))), .val (.int ch)] [(.ref d)]))
  refine Go.st (fun _ k => XS.iloadN X.here hx rfl (hb hby d11_33) rfl k) ?_
  show Go p e below _ (T.setTop (mkF m 34 #[.val (.ref d), .val (.int (Int32.ofNat (2 * j))), .val (.int ch)] [(.int (Int32.ofNat (2 * j))), (.ref d)]))
  refine Go.st (fun _ k => XS.iinc X.here hx rfl (hb hby d11_34) rfl (l' := #[.val (.ref d), .val (.int ((Int32.ofNat (2 * j)) + (1 : Int32))), .val (.int ch)]) rfl k) ?_
  show Go p e below _ (T.setTop (mkF m 37 #[.val (.ref d), .val (.int ((Int32.ofNat (2 * j)) + (1 : Int32))), .val (.int ch)] [(.int (Int32.ofNat (2 * j))), (.ref d)]))
  rw [own_succ]
  show Go p e below _ (T.setTop (mkF m 37 #[.val (.ref d), .val (.int (Int32.ofNat (2 * j + 1))), .val (.int ch)] [(.int (Int32.ofNat (2 * j))), (.ref d)]))
  refine Go.st (fun _ k => XS.iloadN X.here hx rfl (hb hby d11_37) rfl k) ?_
  show Go p e below _ (T.setTop (mkF m 38 #[.val (.ref d), .val (.int (Int32.ofNat (2 * j + 1))), .val (.int ch)] [(.int ch), (.int (Int32.ofNat (2 * j))), (.ref d)]))
  have S0s := O.2
  obtain ⟨T, X, hT, st⟩ := getS2 X hx hZ hown (host := "") (Or.inl (hw _ (List.mem_of_getElem? (i := 54) rfl))) Via.refl hT (S16.2.1.ext (O.2)) (g := (mkF m 38 #[.val (.ref d), .val (.int (Int32.ofNat (2 * j + 1))), .val (.int ch)] [(.int ch), (.int (Int32.ofNat (2 * j))), (.ref d)])) rfl (hb hby d11_38)
  refine Go.st st ?_
  show Go p e below _ (T.setTop (mkF m 41 #[.val (.ref d), .val (.int (Int32.ofNat (2 * j + 1))), .val (.int ch)] [(.int (0 : Int32)), (.int ch), (.int (Int32.ofNat (2 * j))), (.ref d)]))
  refine Go.st (fun _ k => XS.ishr X.here hx rfl (hb hby d11_41) rfl k) ?_
  show Go p e below _ (T.setTop (mkF m 42 #[.val (.ref d), .val (.int (Int32.ofNat (2 * j + 1))), .val (.int ch)] [(.int (ch >>> ((0 : Int32) &&& 31))), (.int (Int32.ofNat (2 * j))), (.ref d)]))
  rw [StrChars.shr0]
  show Go p e below _ (T.setTop (mkF m 42 #[.val (.ref d), .val (.int (Int32.ofNat (2 * j + 1))), .val (.int ch)] [(.int ch), (.int (Int32.ofNat (2 * j))), (.ref d)]))
  refine Go.st (fun _ k => XS.i2b X.here hx rfl (hb hby d11_42) rfl k) ?_
  show Go p e below _ (T.setTop (mkF m 43 #[.val (.ref d), .val (.int (Int32.ofNat (2 * j + 1))), .val (.int ch)] [(.int (ch.toInt8.toInt32)), (.int (Int32.ofNat (2 * j))), (.ref d)]))
  refine Go.stBN (i := 2 * j) X hx hZ hT V_d (by rw [own_clamp (by omega)]; omega) (by omega) (by omega) (hb hby d11_43) ?_
  intro T h1 hT Wr1 V_d X
  show Go p e below _ (T.setTop (mkF m 44 #[.val (.ref d), .val (.int (Int32.ofNat (2 * j + 1))), .val (.int ch)] []))
  refine Go.st (fun _ k => XS.aloadN X.here hx rfl (hb hby d11_44) rfl rfl k) ?_
  show Go p e below _ (T.setTop (mkF m 45 #[.val (.ref d), .val (.int (Int32.ofNat (2 * j + 1))), .val (.int ch)] [(.ref d)]))
  refine Go.st (fun _ k => XS.iloadN X.here hx rfl (hb hby d11_45) rfl k) ?_
  show Go p e below _ (T.setTop (mkF m 46 #[.val (.ref d), .val (.int (Int32.ofNat (2 * j + 1))), .val (.int ch)] [(.int (Int32.ofNat (2 * j + 1))), (.ref d)]))
  refine Go.st (fun _ k => XS.iloadN X.here hx rfl (hb hby d11_46) rfl k) ?_
  show Go p e below _ (T.setTop (mkF m 47 #[.val (.ref d), .val (.int (Int32.ofNat (2 * j + 1))), .val (.int ch)] [(.int ch), (.int (Int32.ofNat (2 * j + 1))), (.ref d)]))
  have S0s := O.2
  obtain ⟨T, X, hT, st⟩ := getS2 X hx hZ hown (host := "") (Or.inl (hw _ (List.mem_of_getElem? (i := 55) rfl))) Via.refl hT (S16.2.2.ext ((O.wr Wr1 ge_d).2)) (g := (mkF m 47 #[.val (.ref d), .val (.int (Int32.ofNat (2 * j + 1))), .val (.int ch)] [(.int ch), (.int (Int32.ofNat (2 * j + 1))), (.ref d)])) rfl (hb hby d11_47)
  refine Go.st st ?_
  show Go p e below _ (T.setTop (mkF m 50 #[.val (.ref d), .val (.int (Int32.ofNat (2 * j + 1))), .val (.int ch)] [(.int (8 : Int32)), (.int ch), (.int (Int32.ofNat (2 * j + 1))), (.ref d)]))
  refine Go.st (fun _ k => XS.ishr X.here hx rfl (hb hby d11_50) rfl k) ?_
  show Go p e below _ (T.setTop (mkF m 51 #[.val (.ref d), .val (.int (Int32.ofNat (2 * j + 1))), .val (.int ch)] [(.int (ch >>> ((8 : Int32) &&& 31))), (.int (Int32.ofNat (2 * j + 1))), (.ref d)]))
  refine Go.st (fun _ k => XS.i2b X.here hx rfl (hb hby d11_51) rfl k) ?_
  show Go p e below _ (T.setTop (mkF m 52 #[.val (.ref d), .val (.int (Int32.ofNat (2 * j + 1))), .val (.int ch)] [(.int ((ch >>> ((8 : Int32) &&& 31)).toInt8.toInt32)), (.int (Int32.ofNat (2 * j + 1))), (.ref d)]))
  refine Go.stBN (i := 2 * j + 1) X hx hZ hT V_d (by rw [own_clamp (by omega)]; omega) (by omega) (by simp only [List.length_set]; omega) (hb hby d11_52) ?_
  intro T h2 hT Wr2 V_d X
  show Go p e below _ (T.setTop (mkF m 53 #[.val (.ref d), .val (.int (Int32.ofNat (2 * j + 1))), .val (.int ch)] []))
  refine Go.retV X hx hlk hT hret (hb hby d11_53) (by decide) (by decide) ?_
  exact ⟨rfl, Fr.app (Fr.app (Fr.nil n0) (own_fr1 ge_d)) (own_fr1 ge_d), ((Keep.refl h0 [d]).wr Wr1 (Or.inl (List.mem_of_getElem? (i := 0) rfl))).wr Wr2 (Or.inl (List.mem_of_getElem? (i := 0) rfl)), by have q := V_d; rw [own_b2, own_b2] at q; exact q⟩
theorem d12_0 : decode jdk_52_method_5_code 0 = .ok (.getstatic 44, 3) := by decide +kernel
theorem d12_3 : decode jdk_52_method_5_code 3 = .ok (.ifCond .ne 25, 3) := by decide +kernel
theorem d12_28 : decode jdk_52_method_5_code 28 = .ok (.iload_n 1, 1) := by decide +kernel
theorem d12_29 : decode jdk_52_method_5_code 29 = .ok (.iconst 1, 1) := by decide +kernel
theorem d12_30 : decode jdk_52_method_5_code 30 = .ok (.ishl, 1) := by decide +kernel
theorem d12_31 : decode jdk_52_method_5_code 31 = .ok (.istore_n 1, 1) := by decide +kernel
theorem d12_32 : decode jdk_52_method_5_code 32 = .ok (.aload_n 0, 1) := by decide +kernel
theorem d12_33 : decode jdk_52_method_5_code 33 = .ok (.iload_n 1, 1) := by decide +kernel
theorem d12_34 : decode jdk_52_method_5_code 34 = .ok (.iinc 1 1, 3) := by decide +kernel
theorem d12_37 : decode jdk_52_method_5_code 37 = .ok (.baload, 1) := by decide +kernel
theorem d12_38 : decode jdk_52_method_5_code 38 = .ok (.sipush 255, 3) := by decide +kernel
theorem d12_41 : decode jdk_52_method_5_code 41 = .ok (.iand, 1) := by decide +kernel
theorem d12_42 : decode jdk_52_method_5_code 42 = .ok (.getstatic 59, 3) := by decide +kernel
theorem d12_45 : decode jdk_52_method_5_code 45 = .ok (.ishl, 1) := by decide +kernel
theorem d12_46 : decode jdk_52_method_5_code 46 = .ok (.aload_n 0, 1) := by decide +kernel
theorem d12_47 : decode jdk_52_method_5_code 47 = .ok (.iload_n 1, 1) := by decide +kernel
theorem d12_48 : decode jdk_52_method_5_code 48 = .ok (.baload, 1) := by decide +kernel
theorem d12_49 : decode jdk_52_method_5_code 49 = .ok (.sipush 255, 3) := by decide +kernel
theorem d12_52 : decode jdk_52_method_5_code 52 = .ok (.iand, 1) := by decide +kernel
theorem d12_53 : decode jdk_52_method_5_code 53 = .ok (.getstatic 63, 3) := by decide +kernel
theorem d12_56 : decode jdk_52_method_5_code 56 = .ok (.ishl, 1) := by decide +kernel
theorem d12_57 : decode jdk_52_method_5_code 57 = .ok (.ior, 1) := by decide +kernel
theorem d12_58 : decode jdk_52_method_5_code 58 = .ok (.i2c, 1) := by decide +kernel
theorem d12_59 : decode jdk_52_method_5_code 59 = .ok (.ireturn, 1) := by decide +kernel
theorem pn_5 : plainFor (⟨"java/lang/StringUTF16", "getChar", "([BI)C"⟩ : MethodName) = true := by first | exact plainFor_of_name (by first | (simp [plainName, overriddenIn]; done) | decide +kernel) | decide +kernel
theorem ef_AI_2 (m : MethodId) (y0 : Addr) (y1 : Int32) : entryFrame m #[(.ref y0), (.int y1)] 2 = mkF m 0 #[.val (.ref y0), .val (.int y1)] [] := by first | (simp [entryFrame, mkF, argsToLocals, Value.category]; done) | rfl
set_option maxRecDepth 65536 in
set_option maxHeartbeats 40000000 in
theorem met_getc (l : Launch) (Z : State) (a0 : Array Value) (hw : ∀ d ∈ tables_1, d.before a0 Z = true) (ws : List Jvm.Cond) (n0 : Nat) (d : Addr) (kd : ClassId) (cs : List Int32) (j : Nat) (h0 : Heap) (O : Old Z n0 h0) (S16 : St16 Z) (V_d : Arv Z h0 d kd .byte (Int32.ofNat (2 * cs.length)) (StrChars.Road.wideBytes cs) (.int 0)) (hn : cs.length ≤ 2) (hj : j < cs.length) (hr : ¬ cs.getD j 0 < 0 ∧ ¬ (65535 : Int32) < cs.getD j 0) :
    MetFree l (⟨"java/lang/StringUTF16", "getChar", "([BI)C"⟩ : MethodName) (head1 (Jvm.Cond.code (⟨"java/lang/StringUTF16", "getChar", "([BI)C"⟩ : MethodName) jdk_52_method_5_code 2 (some .char) :: ws) ({ frames := 0, cells := 0, slots := 0, locals := 0 } : Room)) (fun aa U => aa = #[(.ref d), (.int (Int32.ofNat j))] ∧ Z.Warmed39 U.vm ∧ U.heap = h0) (fun _ _ _ _ _ => True) (fun _ U o U' => ∃ v L, o = .returned v ∧ QV (.int (cs.getD j 0)) h0 v U'.heap L ∧ FrameEnd U o U' L ({ frames := 0, cells := 0, slots := 0, locals := 0 } : Room).cells ({ frames := 0, cells := 0, slots := 0, locals := 0 } : Room).slots) := by
  refine openP (y := (⟨"java/lang/StringUTF16", "getChar", "([BI)C"⟩ : MethodName)) pn_5 ?_
  intro p e s m below meth c T hx hby hml hret hlk hnm hZ hown X hT
  refine Go.st (fun _ k => castTop (ef_AI_2 m d (Int32.ofNat j)) k) ?_
  show Go p e below _ (T.setTop (mkF m 0 #[.val (.ref d), .val (.int (Int32.ofNat j))] []))
  have S0s := O.2
  obtain ⟨T, X, hT, st⟩ := getS2 X hx hZ hown (host := "") (Or.inl (hw _ (List.mem_of_getElem? (i := 53) rfl))) Via.refl hT (S16.1.ext (O.2)) (g := (mkF m 0 #[.val (.ref d), .val (.int (Int32.ofNat j))] [])) rfl (hb hby d12_0)
  refine Go.st st ?_
  show Go p e below _ (T.setTop (mkF m 3 #[.val (.ref d), .val (.int (Int32.ofNat j))] [(.int (1 : Int32))]))
  refine Go.st (fun _ k => XS.ifYes X.here hx rfl (pc0 := 3) (pc' := 28) rfl (hb hby d12_3) rfl (Jvm.Free.XT.i0_ne_t (by decide : ¬ ((1 : Int32) = (0 : Int32)))) (by decide) (by decide) k) ?_
  show Go p e below _ (T.setTop (mkF m 28 #[.val (.ref d), .val (.int (Int32.ofNat j))] []))
  refine Go.st (fun _ k => XS.iloadN X.here hx rfl (hb hby d12_28) rfl k) ?_
  show Go p e below _ (T.setTop (mkF m 29 #[.val (.ref d), .val (.int (Int32.ofNat j))] [(.int (Int32.ofNat j))]))
  refine Go.st (fun _ k => XS.iconst X.here hx rfl (hb hby d12_29) k) ?_
  show Go p e below _ (T.setTop (mkF m 30 #[.val (.ref d), .val (.int (Int32.ofNat j))] [(.int (1 : Int32)), (.int (Int32.ofNat j))]))
  refine Go.st (fun _ k => XS.ishl X.here hx rfl (hb hby d12_30) rfl k) ?_
  show Go p e below _ (T.setTop (mkF m 31 #[.val (.ref d), .val (.int (Int32.ofNat j))] [(.int ((Int32.ofNat j) <<< ((1 : Int32) &&& 31)))]))
  rw [own_dbl (by omega)]
  show Go p e below _ (T.setTop (mkF m 31 #[.val (.ref d), .val (.int (Int32.ofNat j))] [(.int (Int32.ofNat (2 * j)))]))
  refine Go.st (fun _ k => XS.istoreN X.here hx rfl (hb hby d12_31) rfl (l' := #[.val (.ref d), .val (.int (Int32.ofNat (2 * j)))]) rfl k) ?_
  show Go p e below _ (T.setTop (mkF m 32 #[.val (.ref d), .val (.int (Int32.ofNat (2 * j)))] []))
  refine Go.st (fun _ k => XS.aloadN X.here hx rfl (hb hby d12_32) rfl rfl k) ?_
  show Go p e below _ (T.setTop (mkF m 33 #[.val (.ref d), .val (.int (Int32.ofNat (2 * j)))] [(.ref d)]))
  refine Go.st (fun _ k => XS.iloadN X.here hx rfl (hb hby d12_33) rfl k) ?_
  show Go p e below _ (T.setTop (mkF m 34 #[.val (.ref d), .val (.int (Int32.ofNat (2 * j)))] [(.int (Int32.ofNat (2 * j))), (.ref d)]))
  refine Go.st (fun _ k => XS.iinc X.here hx rfl (hb hby d12_34) rfl (l' := #[.val (.ref d), .val (.int ((Int32.ofNat (2 * j)) + (1 : Int32)))]) rfl k) ?_
  show Go p e below _ (T.setTop (mkF m 37 #[.val (.ref d), .val (.int ((Int32.ofNat (2 * j)) + (1 : Int32)))] [(.int (Int32.ofNat (2 * j))), (.ref d)]))
  rw [own_succ]
  show Go p e below _ (T.setTop (mkF m 37 #[.val (.ref d), .val (.int (Int32.ofNat (2 * j + 1)))] [(.int (Int32.ofNat (2 * j))), (.ref d)]))
  refine Go.baloadN (i := 2 * j) X hx hZ hT V_d (by rw [own_clamp (by omega)]; omega) (by omega) (StrChars.Road.wide_lo _ cs j hj) (hb hby d12_37) ?_
  show Go p e below _ (T.setTop (mkF m 38 #[.val (.ref d), .val (.int (Int32.ofNat (2 * j + 1)))] [(.int (StrChars.lo8 (cs.getD j 0)))]))
  refine Go.st (fun _ k => XS.sipush X.here hx rfl (hb hby d12_38) k) ?_
  show Go p e below _ (T.setTop (mkF m 41 #[.val (.ref d), .val (.int (Int32.ofNat (2 * j + 1)))] [(.int (255 : Int32)), (.int (StrChars.lo8 (cs.getD j 0)))]))
  refine Go.st (fun _ k => XS.iand X.here hx rfl (hb hby d12_41) rfl k) ?_
  show Go p e below _ (T.setTop (mkF m 42 #[.val (.ref d), .val (.int (Int32.ofNat (2 * j + 1)))] [(.int ((StrChars.lo8 (cs.getD j 0)) &&& (255 : Int32)))]))
  have S0s := O.2
  obtain ⟨T, X, hT, st⟩ := getS2 X hx hZ hown (host := "") (Or.inl (hw _ (List.mem_of_getElem? (i := 54) rfl))) Via.refl hT (S16.2.1.ext (O.2)) (g := (mkF m 42 #[.val (.ref d), .val (.int (Int32.ofNat (2 * j + 1)))] [(.int ((StrChars.lo8 (cs.getD j 0)) &&& (255 : Int32)))])) rfl (hb hby d12_42)
  refine Go.st st ?_
  show Go p e below _ (T.setTop (mkF m 45 #[.val (.ref d), .val (.int (Int32.ofNat (2 * j + 1)))] [(.int (0 : Int32)), (.int ((StrChars.lo8 (cs.getD j 0)) &&& (255 : Int32)))]))
  refine Go.st (fun _ k => XS.ishl X.here hx rfl (hb hby d12_45) rfl k) ?_
  show Go p e below _ (T.setTop (mkF m 46 #[.val (.ref d), .val (.int (Int32.ofNat (2 * j + 1)))] [(.int (((StrChars.lo8 (cs.getD j 0)) &&& (255 : Int32)) <<< ((0 : Int32) &&& 31)))]))
  refine Go.st (fun _ k => XS.aloadN X.here hx rfl (hb hby d12_46) rfl rfl k) ?_
  show Go p e below _ (T.setTop (mkF m 47 #[.val (.ref d), .val (.int (Int32.ofNat (2 * j + 1)))] [(.ref d), (.int (((StrChars.lo8 (cs.getD j 0)) &&& (255 : Int32)) <<< ((0 : Int32) &&& 31)))]))
  refine Go.st (fun _ k => XS.iloadN X.here hx rfl (hb hby d12_47) rfl k) ?_
  show Go p e below _ (T.setTop (mkF m 48 #[.val (.ref d), .val (.int (Int32.ofNat (2 * j + 1)))] [(.int (Int32.ofNat (2 * j + 1))), (.ref d), (.int (((StrChars.lo8 (cs.getD j 0)) &&& (255 : Int32)) <<< ((0 : Int32) &&& 31)))]))
  refine Go.baloadN (i := 2 * j + 1) X hx hZ hT V_d (by rw [own_clamp (by omega)]; omega) (by omega) (StrChars.Road.wide_hi _ cs j hj) (hb hby d12_48) ?_
  show Go p e below _ (T.setTop (mkF m 49 #[.val (.ref d), .val (.int (Int32.ofNat (2 * j + 1)))] [(.int (StrChars.hi8 (cs.getD j 0))), (.int (((StrChars.lo8 (cs.getD j 0)) &&& (255 : Int32)) <<< ((0 : Int32) &&& 31)))]))
  refine Go.st (fun _ k => XS.sipush X.here hx rfl (hb hby d12_49) k) ?_
  show Go p e below _ (T.setTop (mkF m 52 #[.val (.ref d), .val (.int (Int32.ofNat (2 * j + 1)))] [(.int (255 : Int32)), (.int (StrChars.hi8 (cs.getD j 0))), (.int (((StrChars.lo8 (cs.getD j 0)) &&& (255 : Int32)) <<< ((0 : Int32) &&& 31)))]))
  refine Go.st (fun _ k => XS.iand X.here hx rfl (hb hby d12_52) rfl k) ?_
  show Go p e below _ (T.setTop (mkF m 53 #[.val (.ref d), .val (.int (Int32.ofNat (2 * j + 1)))] [(.int ((StrChars.hi8 (cs.getD j 0)) &&& (255 : Int32))), (.int (((StrChars.lo8 (cs.getD j 0)) &&& (255 : Int32)) <<< ((0 : Int32) &&& 31)))]))
  have S0s := O.2
  obtain ⟨T, X, hT, st⟩ := getS2 X hx hZ hown (host := "") (Or.inl (hw _ (List.mem_of_getElem? (i := 55) rfl))) Via.refl hT (S16.2.2.ext (O.2)) (g := (mkF m 53 #[.val (.ref d), .val (.int (Int32.ofNat (2 * j + 1)))] [(.int ((StrChars.hi8 (cs.getD j 0)) &&& (255 : Int32))), (.int (((StrChars.lo8 (cs.getD j 0)) &&& (255 : Int32)) <<< ((0 : Int32) &&& 31)))])) rfl (hb hby d12_53)
  refine Go.st st ?_
  show Go p e below _ (T.setTop (mkF m 56 #[.val (.ref d), .val (.int (Int32.ofNat (2 * j + 1)))] [(.int (8 : Int32)), (.int ((StrChars.hi8 (cs.getD j 0)) &&& (255 : Int32))), (.int (((StrChars.lo8 (cs.getD j 0)) &&& (255 : Int32)) <<< ((0 : Int32) &&& 31)))]))
  refine Go.st (fun _ k => XS.ishl X.here hx rfl (hb hby d12_56) rfl k) ?_
  show Go p e below _ (T.setTop (mkF m 57 #[.val (.ref d), .val (.int (Int32.ofNat (2 * j + 1)))] [(.int (((StrChars.hi8 (cs.getD j 0)) &&& (255 : Int32)) <<< ((8 : Int32) &&& 31))), (.int (((StrChars.lo8 (cs.getD j 0)) &&& (255 : Int32)) <<< ((0 : Int32) &&& 31)))]))
  refine Go.st (fun _ k => XS.ior X.here hx rfl (hb hby d12_57) rfl k) ?_
  show Go p e below _ (T.setTop (mkF m 58 #[.val (.ref d), .val (.int (Int32.ofNat (2 * j + 1)))] [(.int ((((StrChars.lo8 (cs.getD j 0)) &&& (255 : Int32)) <<< ((0 : Int32) &&& 31)) ||| (((StrChars.hi8 (cs.getD j 0)) &&& (255 : Int32)) <<< ((8 : Int32) &&& 31))))]))
  refine Go.st (fun _ k => XS.i2c X.here hx rfl (hb hby d12_58) rfl k) ?_
  show Go p e below _ (T.setTop (mkF m 59 #[.val (.ref d), .val (.int (Int32.ofNat (2 * j + 1)))] [(.int (((((StrChars.lo8 (cs.getD j 0)) &&& (255 : Int32)) <<< ((0 : Int32) &&& 31)) ||| (((StrChars.hi8 (cs.getD j 0)) &&& (255 : Int32)) <<< ((8 : Int32) &&& 31))).toUInt32.toUInt16.toUInt32.toInt32))]))
  refine Go.ret X hx hlk hT hret (own_nc _) (riI (by simp)) (hb hby d12_59) (by decide) (by decide) ?_
  exact ⟨congrArg (fun z => some (Value.int z)) (StrChars.pair_says hr.1 hr.2), rfl, rfl⟩
def QC5 (Z : State) (n0 : Nat) (d : Addr) (kd : ClassId) (cs : List Int32) (h0 : Heap) (v : Option Value) (h : Heap) (L : List Loc) : Prop := v = some (.int (Int32.ofNat (fstW cs))) ∧ Fr n0 L ∧ Keep h0 h [d] ∧ (fstW cs = cs.length → Arv Z h d kd .byte (Int32.ofNat cs.length) (lows cs) (.int 0))
theorem d6_0 : decode jdk_52_method_21_code 0 = .ok (.iconst 0, 1) := by decide +kernel
theorem d6_1 : decode jdk_52_method_21_code 1 = .ok (.istore 5, 2) := by decide +kernel
theorem d6_3 : decode jdk_52_method_21_code 3 = .ok (.iload 5, 2) := by decide +kernel
theorem d6_5 : decode jdk_52_method_21_code 5 = .ok (.iload 4, 2) := by decide +kernel
theorem d6_7 : decode jdk_52_method_21_code 7 = .ok (.if_icmp .ge 37, 3) := by decide +kernel
theorem d6_10 : decode jdk_52_method_21_code 10 = .ok (.aload_n 0, 1) := by decide +kernel
theorem d6_11 : decode jdk_52_method_21_code 11 = .ok (.iload_n 1, 1) := by decide +kernel
theorem d6_12 : decode jdk_52_method_21_code 12 = .ok (.caload, 1) := by decide +kernel
theorem d6_13 : decode jdk_52_method_21_code 13 = .ok (.istore 6, 2) := by decide +kernel
theorem d6_15 : decode jdk_52_method_21_code 15 = .ok (.iload 6, 2) := by decide +kernel
theorem d6_17 : decode jdk_52_method_21_code 17 = .ok (.sipush 255, 3) := by decide +kernel
theorem d6_20 : decode jdk_52_method_21_code 20 = .ok (.if_icmp .le 6, 3) := by decide +kernel
theorem d6_23 : decode jdk_52_method_21_code 23 = .ok (.iload 5, 2) := by decide +kernel
theorem d6_25 : decode jdk_52_method_21_code 25 = .ok (.ireturn, 1) := by decide +kernel
theorem d6_26 : decode jdk_52_method_21_code 26 = .ok (.aload_n 2, 1) := by decide +kernel
theorem d6_27 : decode jdk_52_method_21_code 27 = .ok (.iload_n 3, 1) := by decide +kernel
theorem d6_28 : decode jdk_52_method_21_code 28 = .ok (.iload 6, 2) := by decide +kernel
theorem d6_30 : decode jdk_52_method_21_code 30 = .ok (.i2b, 1) := by decide +kernel
theorem d6_31 : decode jdk_52_method_21_code 31 = .ok (.bastore, 1) := by decide +kernel
theorem d6_32 : decode jdk_52_method_21_code 32 = .ok (.iinc 1 1, 3) := by decide +kernel
theorem d6_35 : decode jdk_52_method_21_code 35 = .ok (.iinc 3 1, 3) := by decide +kernel
theorem d6_38 : decode jdk_52_method_21_code 38 = .ok (.iinc 5 1, 3) := by decide +kernel
theorem d6_41 : decode jdk_52_method_21_code 41 = .ok (.goto (-38), 3) := by decide +kernel
theorem d6_44 : decode jdk_52_method_21_code 44 = .ok (.iload 4, 2) := by decide +kernel
theorem d6_46 : decode jdk_52_method_21_code 46 = .ok (.ireturn, 1) := by decide +kernel
theorem pn_6 : plainFor (⟨"java/lang/StringUTF16", "compress", "([CI[BII)I"⟩ : MethodName) = true := by first | exact plainFor_of_name (by first | (simp [plainName, overriddenIn]; done) | decide +kernel) | decide +kernel
theorem ef_AIAII_7 (m : MethodId) (y0 : Addr) (y1 : Int32) (y2 : Addr) (y3 : Int32) (y4 : Int32) : entryFrame m #[(.ref y0), (.int y1), (.ref y2), (.int y3), (.int y4)] 7 = mkF m 0 #[.val (.ref y0), .val (.int y1), .val (.ref y2), .val (.int y3), .val (.int y4), .unset, .unset] [] := by first | (simp [entryFrame, mkF, argsToLocals, Value.category]; done) | rfl
set_option maxRecDepth 65536 in
set_option maxHeartbeats 40000000 in
theorem met_cmp5 (l : Launch) (Z : State) (a0 : Array Value) (hw : ∀ d ∈ tables_1, d.before a0 Z = true) (ws : List Jvm.Cond) (n0 : Nat) (b d : Addr) (kC kd : ClassId) (cs : List Int32) (h0 : Heap) (ge_d : n0 ≤ d) (ne_bd : b ≠ d) (V_b : Arv Z h0 b kC .char (Int32.ofNat cs.length) (cs.map Value.int) (.int 0)) (V_d : Arv Z h0 d kd .byte (Int32.ofNat cs.length) [] (.int 0)) (hn : cs.length ≤ 2) :
    MetFree l (⟨"java/lang/StringUTF16", "compress", "([CI[BII)I"⟩ : MethodName) (head1 (Jvm.Cond.code (⟨"java/lang/StringUTF16", "compress", "([CI[BII)I"⟩ : MethodName) jdk_52_method_21_code 7 (some .int) :: ws) ({ frames := 0, cells := 0, slots := 0, locals := 0 } : Room)) (fun aa U => aa = #[(.ref b), (.int (0 : Int32)), (.ref d), (.int (0 : Int32)), (.int (Int32.ofNat cs.length))] ∧ Z.Warmed39 U.vm ∧ U.heap = h0) (fun _ _ _ _ _ => True) (fun _ U o U' => ∃ v L, o = .returned v ∧ QC5 Z n0 d kd cs h0 v U'.heap L ∧ FrameEnd U o U' L ({ frames := 0, cells := 0, slots := 0, locals := 0 } : Room).cells ({ frames := 0, cells := 0, slots := 0, locals := 0 } : Room).slots) := by
  refine openP (y := (⟨"java/lang/StringUTF16", "compress", "([CI[BII)I"⟩ : MethodName)) pn_6 ?_
  intro p e s m below meth c T hx hby hml hret hlk hnm hZ hown X hT
  refine Go.st (fun _ k => castTop (ef_AIAII_7 m b (0 : Int32) d (0 : Int32) (Int32.ofNat cs.length)) k) ?_
  show Go p e below _ (T.setTop (mkF m 0 #[.val (.ref b), .val (.int (0 : Int32)), .val (.ref d), .val (.int (0 : Int32)), .val (.int (Int32.ofNat cs.length)), .unset, .unset] []))
  refine Go.st (fun _ k => XS.iconst X.here hx rfl (hb hby d6_0) k) ?_
  show Go p e below _ (T.setTop (mkF m 1 #[.val (.ref b), .val (.int (0 : Int32)), .val (.ref d), .val (.int (0 : Int32)), .val (.int (Int32.ofNat cs.length)), .unset, .unset] [(.int (0 : Int32))]))
  refine Go.st (fun _ k => XS.istore X.here hx rfl (hb hby d6_1) rfl (l' := #[.val (.ref b), .val (.int (0 : Int32)), .val (.ref d), .val (.int (0 : Int32)), .val (.int (Int32.ofNat cs.length)), .val (.int (0 : Int32)), .unset]) rfl k) ?_
  show Go p e below _ (T.setTop (mkF m 3 #[.val (.ref b), .val (.int (0 : Int32)), .val (.ref d), .val (.int (0 : Int32)), .val (.int (Int32.ofNat cs.length)), .val (.int (0 : Int32)), .unset] []))
  have loop : ∀ (k i : Nat) (T : State) (hi : Heap) (L : List Loc) (s6 : Slot), i + k = cs.length → One s6 → (∀ c ∈ cs.take i, ¬ (255 : Int32) < c) → T.heap = hi → Keep h0 hi [d] → Arv Z hi d kd .byte (Int32.ofNat cs.length) (lows (cs.take i)) (.int 0) → Arv Z hi b kC .char (Int32.ofNat cs.length) (cs.map Value.int) (.int 0) → Fr n0 L → Stand p l e ({ frames := 0, cells := 0, slots := 0, locals := 0 } : Room) s m #[(.ref b), (.int (0 : Int32)), (.ref d), (.int (0 : Int32)), (.int (Int32.ofNat cs.length))] below meth c T L 0 0 → Go p e below (EndP s (QC5 Z n0 d kd cs h0) ({ frames := 0, cells := 0, slots := 0, locals := 0 } : Room).cells ({ frames := 0, cells := 0, slots := 0, locals := 0 } : Room).slots) (T.setTop (mkF m 3 #[.val (.ref b), .val (.int (Int32.ofNat i)), .val (.ref d), .val (.int (Int32.ofNat i)), .val (.int (Int32.ofNat cs.length)), .val (.int (Int32.ofNat i)), s6] [])) := by
    intro k
    induction k with
    | zero =>
      intro i T hi L s6 hik o6 hall hT KB V_d V_b N X
      refine Go.st (fun _ k => XS.iload X.here hx rfl (hb hby d6_3) rfl k) ?_
      show Go p e below _ (T.setTop (mkF m 5 #[.val (.ref b), .val (.int (Int32.ofNat i)), .val (.ref d), .val (.int (Int32.ofNat i)), .val (.int (Int32.ofNat cs.length)), .val (.int (Int32.ofNat i)), s6] [(.int (Int32.ofNat i))]))
      refine Go.st (fun _ k => XS.iload X.here hx rfl (hb hby d6_5) rfl k) ?_
      show Go p e below _ (T.setTop (mkF m 7 #[.val (.ref b), .val (.int (Int32.ofNat i)), .val (.ref d), .val (.int (Int32.ofNat i)), .val (.int (Int32.ofNat cs.length)), .val (.int (Int32.ofNat i)), s6] [(.int (Int32.ofNat cs.length)), (.int (Int32.ofNat i))]))
      refine Go.st (fun _ k => XS.icmpYes X.here hx rfl (pc0 := 7) (pc' := 44) rfl (hb hby d6_7) rfl (Jvm.Free.XT.ii_ge_t (fun q => absurd ((own_lt (by omega) (by omega)).mp q) (by omega) : ¬ ((Int32.ofNat i) < (Int32.ofNat cs.length)))) (by decide) (by decide) k) ?_
      show Go p e below _ (T.setTop (mkF m 44 #[.val (.ref b), .val (.int (Int32.ofNat i)), .val (.ref d), .val (.int (Int32.ofNat i)), .val (.int (Int32.ofNat cs.length)), .val (.int (Int32.ofNat i)), s6] []))
      refine Go.st (fun _ k => XS.iload X.here hx rfl (hb hby d6_44) rfl k) ?_
      show Go p e below _ (T.setTop (mkF m 46 #[.val (.ref b), .val (.int (Int32.ofNat i)), .val (.ref d), .val (.int (Int32.ofNat i)), .val (.int (Int32.ofNat cs.length)), .val (.int (Int32.ofNat i)), s6] [(.int (Int32.ofNat cs.length))]))
      refine Go.ret X hx hlk hT hret rfl (riI (by simp)) (hb hby d6_46) (by decide) (by decide) ?_
      have e1 : cs.take i = cs := List.take_of_length_le (by omega)
      rw [e1] at hall V_d
      exact ⟨by rw [fstW_all cs hall], N, KB, fun _ => V_d⟩
    | succ k ih =>
      intro i T hi L s6 hik o6 hall hT KB V_d V_b N X
      refine Go.st (fun _ k => XS.iload X.here hx rfl (hb hby d6_3) rfl k) ?_
      show Go p e below _ (T.setTop (mkF m 5 #[.val (.ref b), .val (.int (Int32.ofNat i)), .val (.ref d), .val (.int (Int32.ofNat i)), .val (.int (Int32.ofNat cs.length)), .val (.int (Int32.ofNat i)), s6] [(.int (Int32.ofNat i))]))
      refine Go.st (fun _ k => XS.iload X.here hx rfl (hb hby d6_5) rfl k) ?_
      show Go p e below _ (T.setTop (mkF m 7 #[.val (.ref b), .val (.int (Int32.ofNat i)), .val (.ref d), .val (.int (Int32.ofNat i)), .val (.int (Int32.ofNat cs.length)), .val (.int (Int32.ofNat i)), s6] [(.int (Int32.ofNat cs.length)), (.int (Int32.ofNat i))]))
      refine Go.st (fun _ k => XS.icmpNo X.here hx rfl (hb hby d6_7) rfl (Jvm.Free.XT.ii_ge_f ((own_lt (by omega) (by omega)).mpr (by omega) : (Int32.ofNat i) < (Int32.ofNat cs.length))) k) ?_
      show Go p e below _ (T.setTop (mkF m 10 #[.val (.ref b), .val (.int (Int32.ofNat i)), .val (.ref d), .val (.int (Int32.ofNat i)), .val (.int (Int32.ofNat cs.length)), .val (.int (Int32.ofNat i)), s6] []))
      refine Go.st (fun _ k => XS.aloadN X.here hx rfl (hb hby d6_10) rfl rfl k) ?_
      show Go p e below _ (T.setTop (mkF m 11 #[.val (.ref b), .val (.int (Int32.ofNat i)), .val (.ref d), .val (.int (Int32.ofNat i)), .val (.int (Int32.ofNat cs.length)), .val (.int (Int32.ofNat i)), s6] [(.ref b)]))
      refine Go.st (fun _ k => XS.iloadN X.here hx rfl (hb hby d6_11) rfl k) ?_
      show Go p e below _ (T.setTop (mkF m 12 #[.val (.ref b), .val (.int (Int32.ofNat i)), .val (.ref d), .val (.int (Int32.ofNat i)), .val (.int (Int32.ofNat cs.length)), .val (.int (Int32.ofNat i)), s6] [(.int (Int32.ofNat i)), (.ref b)]))
      refine Go.caloadN (i := i) X hx hZ hT V_b (by rw [own_clamp (by omega)]; omega) (by omega) (own_ats cs i (by omega)) (hb hby d6_12) ?_
      show Go p e below _ (T.setTop (mkF m 13 #[.val (.ref b), .val (.int (Int32.ofNat i)), .val (.ref d), .val (.int (Int32.ofNat i)), .val (.int (Int32.ofNat cs.length)), .val (.int (Int32.ofNat i)), s6] [(.int (cs.getD i 0))]))
      refine Go.st (fun _ k => XS.istore X.here hx rfl (hb hby d6_13) rfl (l' := #[.val (.ref b), .val (.int (Int32.ofNat i)), .val (.ref d), .val (.int (Int32.ofNat i)), .val (.int (Int32.ofNat cs.length)), .val (.int (Int32.ofNat i)), .val (.int (cs.getD i 0))]) (own_st6 o6) k) ?_
      show Go p e below _ (T.setTop (mkF m 15 #[.val (.ref b), .val (.int (Int32.ofNat i)), .val (.ref d), .val (.int (Int32.ofNat i)), .val (.int (Int32.ofNat cs.length)), .val (.int (Int32.ofNat i)), .val (.int (cs.getD i 0))] []))
      refine Go.st (fun _ k => XS.iload X.here hx rfl (hb hby d6_15) rfl k) ?_
      show Go p e below _ (T.setTop (mkF m 17 #[.val (.ref b), .val (.int (Int32.ofNat i)), .val (.ref d), .val (.int (Int32.ofNat i)), .val (.int (Int32.ofNat cs.length)), .val (.int (Int32.ofNat i)), .val (.int (cs.getD i 0))] [(.int (cs.getD i 0))]))
      refine Go.st (fun _ k => XS.sipush X.here hx rfl (hb hby d6_17) k) ?_
      show Go p e below _ (T.setTop (mkF m 20 #[.val (.ref b), .val (.int (Int32.ofNat i)), .val (.ref d), .val (.int (Int32.ofNat i)), .val (.int (Int32.ofNat cs.length)), .val (.int (Int32.ofNat i)), .val (.int (cs.getD i 0))] [(.int (255 : Int32)), (.int (cs.getD i 0))]))
      by_cases hwide : (255 : Int32) < (cs.getD i 0)
      · refine Go.st (fun _ k => XS.icmpNo X.here hx rfl (hb hby d6_20) rfl (Jvm.Free.XT.ii_le_f hwide) k) ?_
        show Go p e below _ (T.setTop (mkF m 23 #[.val (.ref b), .val (.int (Int32.ofNat i)), .val (.ref d), .val (.int (Int32.ofNat i)), .val (.int (Int32.ofNat cs.length)), .val (.int (Int32.ofNat i)), .val (.int (cs.getD i 0))] []))
        refine Go.st (fun _ k => XS.iload X.here hx rfl (hb hby d6_23) rfl k) ?_
        show Go p e below _ (T.setTop (mkF m 25 #[.val (.ref b), .val (.int (Int32.ofNat i)), .val (.ref d), .val (.int (Int32.ofNat i)), .val (.int (Int32.ofNat cs.length)), .val (.int (Int32.ofNat i)), .val (.int (cs.getD i 0))] [(.int (Int32.ofNat i))]))
        refine Go.ret X hx hlk hT hret rfl (riI (by simp)) (hb hby d6_25) (by decide) (by decide) ?_
        have e1 := fstW_stop cs i (by omega) hall hwide
        exact ⟨by rw [e1], N, KB, fun q => absurd q (by omega)⟩
      · refine Go.st (fun _ k => XS.icmpYes X.here hx rfl (pc0 := 20) (pc' := 26) rfl (hb hby d6_20) rfl (Jvm.Free.XT.ii_le_t hwide) (by decide) (by decide) k) ?_
        show Go p e below _ (T.setTop (mkF m 26 #[.val (.ref b), .val (.int (Int32.ofNat i)), .val (.ref d), .val (.int (Int32.ofNat i)), .val (.int (Int32.ofNat cs.length)), .val (.int (Int32.ofNat i)), .val (.int (cs.getD i 0))] []))
        refine Go.st (fun _ k => XS.aloadN X.here hx rfl (hb hby d6_26) rfl rfl k) ?_
        show Go p e below _ (T.setTop (mkF m 27 #[.val (.ref b), .val (.int (Int32.ofNat i)), .val (.ref d), .val (.int (Int32.ofNat i)), .val (.int (Int32.ofNat cs.length)), .val (.int (Int32.ofNat i)), .val (.int (cs.getD i 0))] [(.ref d)]))
        refine Go.st (fun _ k => XS.iloadN X.here hx rfl (hb hby d6_27) rfl k) ?_
        show Go p e below _ (T.setTop (mkF m 28 #[.val (.ref b), .val (.int (Int32.ofNat i)), .val (.ref d), .val (.int (Int32.ofNat i)), .val (.int (Int32.ofNat cs.length)), .val (.int (Int32.ofNat i)), .val (.int (cs.getD i 0))] [(.int (Int32.ofNat i)), (.ref d)]))
        refine Go.st (fun _ k => XS.iload X.here hx rfl (hb hby d6_28) rfl k) ?_
        show Go p e below _ (T.setTop (mkF m 30 #[.val (.ref b), .val (.int (Int32.ofNat i)), .val (.ref d), .val (.int (Int32.ofNat i)), .val (.int (Int32.ofNat cs.length)), .val (.int (Int32.ofNat i)), .val (.int (cs.getD i 0))] [(.int (cs.getD i 0)), (.int (Int32.ofNat i)), (.ref d)]))
        refine Go.st (fun _ k => XS.i2b X.here hx rfl (hb hby d6_30) rfl k) ?_
        show Go p e below _ (T.setTop (mkF m 31 #[.val (.ref b), .val (.int (Int32.ofNat i)), .val (.ref d), .val (.int (Int32.ofNat i)), .val (.int (Int32.ofNat cs.length)), .val (.int (Int32.ofNat i)), .val (.int (cs.getD i 0))] [(.int ((cs.getD i 0).toInt8.toInt32)), (.int (Int32.ofNat i)), (.ref d)]))
        have V_d := V_d.pad (pad_rep _ (.int (0 : Int32)) 1)
        refine Go.stBN (i := i) X hx hZ hT V_d (by rw [own_clamp (by omega)]; omega) (by omega) (by simp [List.length_take]; omega) (hb hby d6_31) ?_
        intro T h2 hT Wr0 V_d X
        have N := Fr.app N (own_fr1 (i := i) ge_d)
        have KB := KB.wr Wr0 (Or.inl (List.mem_of_getElem? (i := 0) rfl))
        have V_b := V_b.other Wr0 ne_bd
        have V_d : Arv Z h2 d kd .byte (Int32.ofNat cs.length) (lows (cs.take (i + 1))) (.int 0) := by
          have e1 : (lows (cs.take i)).length = i := by simp [List.length_take]; omega
          have e2 := own_set1 (lows (cs.take i)) (.int (0 : Int32)) (.int (StrChars.lo8 (cs.getD i 0)))
          rw [e1] at e2
          rw [own_take cs i (by omega), lows, List.map_append]
          have e3 : ((cs.getD i 0).toInt8.toInt32).toInt8.toInt32 = StrChars.lo8 (cs.getD i 0) := by simp [StrChars.lo8]
          rw [e3] at V_d
          exact e2 ▸ V_d
        show Go p e below _ (T.setTop (mkF m 32 #[.val (.ref b), .val (.int (Int32.ofNat i)), .val (.ref d), .val (.int (Int32.ofNat i)), .val (.int (Int32.ofNat cs.length)), .val (.int (Int32.ofNat i)), .val (.int (cs.getD i 0))] []))
        refine Go.st (fun _ k => XS.iinc X.here hx rfl (hb hby d6_32) rfl (l' := #[.val (.ref b), .val (.int ((Int32.ofNat i) + (1 : Int32))), .val (.ref d), .val (.int (Int32.ofNat i)), .val (.int (Int32.ofNat cs.length)), .val (.int (Int32.ofNat i)), .val (.int (cs.getD i 0))]) rfl k) ?_
        show Go p e below _ (T.setTop (mkF m 35 #[.val (.ref b), .val (.int ((Int32.ofNat i) + (1 : Int32))), .val (.ref d), .val (.int (Int32.ofNat i)), .val (.int (Int32.ofNat cs.length)), .val (.int (Int32.ofNat i)), .val (.int (cs.getD i 0))] []))
        refine Go.st (fun _ k => XS.iinc X.here hx rfl (hb hby d6_35) rfl (l' := #[.val (.ref b), .val (.int ((Int32.ofNat i) + (1 : Int32))), .val (.ref d), .val (.int ((Int32.ofNat i) + (1 : Int32))), .val (.int (Int32.ofNat cs.length)), .val (.int (Int32.ofNat i)), .val (.int (cs.getD i 0))]) rfl k) ?_
        show Go p e below _ (T.setTop (mkF m 38 #[.val (.ref b), .val (.int ((Int32.ofNat i) + (1 : Int32))), .val (.ref d), .val (.int ((Int32.ofNat i) + (1 : Int32))), .val (.int (Int32.ofNat cs.length)), .val (.int (Int32.ofNat i)), .val (.int (cs.getD i 0))] []))
        refine Go.st (fun _ k => XS.iinc X.here hx rfl (hb hby d6_38) rfl (l' := #[.val (.ref b), .val (.int ((Int32.ofNat i) + (1 : Int32))), .val (.ref d), .val (.int ((Int32.ofNat i) + (1 : Int32))), .val (.int (Int32.ofNat cs.length)), .val (.int ((Int32.ofNat i) + (1 : Int32))), .val (.int (cs.getD i 0))]) rfl k) ?_
        show Go p e below _ (T.setTop (mkF m 41 #[.val (.ref b), .val (.int ((Int32.ofNat i) + (1 : Int32))), .val (.ref d), .val (.int ((Int32.ofNat i) + (1 : Int32))), .val (.int (Int32.ofNat cs.length)), .val (.int ((Int32.ofNat i) + (1 : Int32))), .val (.int (cs.getD i 0))] []))
        refine Go.st (fun _ k => XS.goto X.here hx rfl (pc0 := 41) (pc' := 3) rfl (hb hby d6_41) (by decide) (by decide) k) ?_
        show Go p e below _ (T.setTop (mkF m 3 #[.val (.ref b), .val (.int ((Int32.ofNat i) + (1 : Int32))), .val (.ref d), .val (.int ((Int32.ofNat i) + (1 : Int32))), .val (.int (Int32.ofNat cs.length)), .val (.int ((Int32.ofNat i) + (1 : Int32))), .val (.int (cs.getD i 0))] []))
        rw [own_succ]
        exact ih (i + 1) T _ _ _ (by omega) (One.val rfl) (fun c hc => by rw [own_take cs i (by omega)] at hc; rcases List.mem_append.mp hc with q | q; exact hall c q; cases List.mem_singleton.mp q; exact hwide) hT KB V_d V_b N X
  exact loop cs.length 0 T _ _ _ (by omega) One.u (by simp) hT (Keep.refl _ _) V_d V_b (Fr.nil n0) X
def QTb (Z : State) (n0 : Nat) (cs : List Int32) (h0 : Heap) (v : Option Value) (h : Heap) (L : List Loc) : Prop := ∃ (r : Addr) (kr : ClassId), v = some (.ref r) ∧ Fr n0 L ∧ h0.size ≤ r ∧ Ext h0 h ∧ Arv Z h r kr .byte (Int32.ofNat (2 * cs.length)) (StrChars.Road.wideBytes cs) (.int 0)
theorem pd_2 : parseMethodDescriptor "(I)[B" = some ⟨[.int], (some (.array .byte))⟩ := by decide +kernel
theorem pd_3 : parseMethodDescriptor "([BII)V" = some ⟨[(.array .byte), .int, .int], none⟩ := by decide +kernel
theorem d8_0 : decode jdk_52_method_14_code 0 = .ok (.iload_n 2, 1) := by decide +kernel
theorem d8_1 : decode jdk_52_method_14_code 1 = .ok (.invokestatic 107, 3) := by decide +kernel
theorem d8_4 : decode jdk_52_method_14_code 4 = .ok (.astore_n 3, 1) := by decide +kernel
theorem d8_5 : decode jdk_52_method_14_code 5 = .ok (.iconst 0, 1) := by decide +kernel
theorem d8_6 : decode jdk_52_method_14_code 6 = .ok (.istore 4, 2) := by decide +kernel
theorem d8_8 : decode jdk_52_method_14_code 8 = .ok (.iload 4, 2) := by decide +kernel
theorem d8_10 : decode jdk_52_method_14_code 10 = .ok (.iload_n 2, 1) := by decide +kernel
theorem d8_11 : decode jdk_52_method_14_code 11 = .ok (.if_icmp .ge 21, 3) := by decide +kernel
theorem d8_14 : decode jdk_52_method_14_code 14 = .ok (.aload_n 3, 1) := by decide +kernel
theorem d8_15 : decode jdk_52_method_14_code 15 = .ok (.iload 4, 2) := by decide +kernel
theorem d8_17 : decode jdk_52_method_14_code 17 = .ok (.aload_n 0, 1) := by decide +kernel
theorem d8_18 : decode jdk_52_method_14_code 18 = .ok (.iload_n 1, 1) := by decide +kernel
theorem d8_19 : decode jdk_52_method_14_code 19 = .ok (.caload, 1) := by decide +kernel
theorem d8_20 : decode jdk_52_method_14_code 20 = .ok (.invokestatic 111, 3) := by decide +kernel
theorem d8_23 : decode jdk_52_method_14_code 23 = .ok (.iinc 1 1, 3) := by decide +kernel
theorem d8_26 : decode jdk_52_method_14_code 26 = .ok (.iinc 4 1, 3) := by decide +kernel
theorem d8_29 : decode jdk_52_method_14_code 29 = .ok (.goto (-21), 3) := by decide +kernel
theorem d8_32 : decode jdk_52_method_14_code 32 = .ok (.aload_n 3, 1) := by decide +kernel
theorem d8_33 : decode jdk_52_method_14_code 33 = .ok (.areturn, 1) := by decide +kernel
theorem pn_7 : plainFor (⟨"java/lang/StringUTF16", "toBytes", "([CII)[B"⟩ : MethodName) = true := by first | exact plainFor_of_name (by first | (simp [plainName, overriddenIn]; done) | decide +kernel) | decide +kernel
theorem ef_AII_5 (m : MethodId) (y0 : Addr) (y1 : Int32) (y2 : Int32) : entryFrame m #[(.ref y0), (.int y1), (.int y2)] 5 = mkF m 0 #[.val (.ref y0), .val (.int y1), .val (.int y2), .unset, .unset] [] := by first | (simp [entryFrame, mkF, argsToLocals, Value.category]; done) | rfl
set_option maxRecDepth 65536 in
set_option maxHeartbeats 40000000 in
theorem met_tob (l : Launch) (Z : State) (a0 : Array Value) (hw : ∀ d ∈ tables_1, d.before a0 Z = true) (ws : List Jvm.Cond) (n0 : Nat) (b : Addr) (kC : ClassId) (cs : List Int32) (h0 : Heap) (O : Old Z n0 h0) (S16 : St16 Z) (V_b : Arv Z h0 b kC .char (Int32.ofNat cs.length) (cs.map Value.int) (.int 0)) (hn : cs.length ≤ 2) :
    MetFree l (⟨"java/lang/StringUTF16", "toBytes", "([CII)[B"⟩ : MethodName) (head1 (Jvm.Cond.code (⟨"java/lang/StringUTF16", "toBytes", "([CII)[B"⟩ : MethodName) jdk_52_method_14_code 5 (some (.array .byte)) :: ws) ({ frames := 2, cells := 1, slots := 4, locals := 24 } : Room)) (fun aa U => aa = #[(.ref b), (.int (0 : Int32)), (.int (Int32.ofNat cs.length))] ∧ Z.Warmed39 U.vm ∧ U.heap = h0) (fun _ _ _ _ _ => True) (fun _ U o U' => ∃ v L, o = .returned v ∧ QTb Z n0 cs h0 v U'.heap L ∧ FrameEnd U o U' L ({ frames := 2, cells := 1, slots := 4, locals := 24 } : Room).cells ({ frames := 2, cells := 1, slots := 4, locals := 24 } : Room).slots) := by
  refine openP (y := (⟨"java/lang/StringUTF16", "toBytes", "([CII)[B"⟩ : MethodName)) pn_7 ?_
  intro p e s m below meth c T hx hby hml hret hlk hnm hZ hown X hT
  refine Go.st (fun _ k => castTop (ef_AII_5 m b (0 : Int32) (Int32.ofNat cs.length)) k) ?_
  show Go p e below _ (T.setTop (mkF m 0 #[.val (.ref b), .val (.int (0 : Int32)), .val (.int (Int32.ofNat cs.length)), .unset, .unset] []))
  refine Go.st (fun _ k => XS.iloadN X.here hx rfl (hb hby d8_0) rfl k) ?_
  show Go p e below _ (T.setTop (mkF m 1 #[.val (.ref b), .val (.int (0 : Int32)), .val (.int (Int32.ofNat cs.length)), .unset, .unset] [(.int (Int32.ofNat cs.length))]))
  have lt_b := V_b.lt
  refine Go.callP (argsL := [(.int (Int32.ofNat cs.length))]) (rest := []) (W := 0) (ck := 1) (sk := 4) X hx hZ hown (hml.trans rfl) hT (hw _ (List.mem_of_getElem? (i := 43) rfl)) (hw _ (List.mem_of_getElem? (i := 44) rfl)) (hw _ (List.mem_of_getElem? (i := 31) rfl)) (hw _ (List.mem_of_getElem? (i := 45) rfl)) (by decide) pd_2 rfl rfl (Nat.le_of_ble_eq_true rfl) (hb hby d8_1) (backOf (W := 0) (met_nbf l Z a0 hw [] cs.length _ hn) hZ (hw _ (List.mem_of_getElem? (i := 45) rfl)) (hw _ (List.mem_of_getElem? (i := 31) rfl)) (by decide) (by decide)) (by decide) (by decide) ?_
  intro v T h1 L hT hQ X
  obtain ⟨r, kr, rfl, rfl, g_r, Ex0, V_r⟩ := hQ
  have V_b := V_b.ext Ex0
  have ne_br : b ≠ r := Nat.ne_of_lt (by rw [g_r]; exact lt_b)
  have ge_r : n0 ≤ r := Nat.le_trans (own_le O) (Nat.le_of_eq g_r.symm)
  have gk_r : h0.size ≤ r := Nat.le_of_eq g_r.symm
  have O := O.ext Ex0
  have KB := extK Ex0
  show Go p e below _ (T.setTop (mkF m 4 #[.val (.ref b), .val (.int (0 : Int32)), .val (.int (Int32.ofNat cs.length)), .unset, .unset] [(.ref r)]))
  refine Go.st (fun _ k => XS.astoreN X.here hx rfl (hb hby d8_4) rfl rfl (l' := #[.val (.ref b), .val (.int (0 : Int32)), .val (.int (Int32.ofNat cs.length)), .val (.ref r), .unset]) rfl k) ?_
  show Go p e below _ (T.setTop (mkF m 5 #[.val (.ref b), .val (.int (0 : Int32)), .val (.int (Int32.ofNat cs.length)), .val (.ref r), .unset] []))
  refine Go.st (fun _ k => XS.iconst X.here hx rfl (hb hby d8_5) k) ?_
  show Go p e below _ (T.setTop (mkF m 6 #[.val (.ref b), .val (.int (0 : Int32)), .val (.int (Int32.ofNat cs.length)), .val (.ref r), .unset] [(.int (0 : Int32))]))
  refine Go.st (fun _ k => XS.istore X.here hx rfl (hb hby d8_6) rfl (l' := #[.val (.ref b), .val (.int (0 : Int32)), .val (.int (Int32.ofNat cs.length)), .val (.ref r), .val (.int (0 : Int32))]) rfl k) ?_
  show Go p e below _ (T.setTop (mkF m 8 #[.val (.ref b), .val (.int (0 : Int32)), .val (.int (Int32.ofNat cs.length)), .val (.ref r), .val (.int (0 : Int32))] []))
  have loop : ∀ (k i : Nat) (T : State) (hi : Heap) (L : List Loc), i + k = cs.length → T.heap = hi → Keep h0 hi [] → Old Z n0 hi → Arv Z hi r kr .byte (Int32.ofNat (2 * cs.length)) (StrChars.Road.wideBytes (cs.take i)) (.int 0) → Arv Z hi b kC .char (Int32.ofNat cs.length) (cs.map Value.int) (.int 0) → Fr n0 L → Stand p l e ({ frames := 2, cells := 1, slots := 4, locals := 24 } : Room) s m #[(.ref b), (.int (0 : Int32)), (.int (Int32.ofNat cs.length))] below meth c T L 1 4 → Go p e below (EndP s (QTb Z n0 cs h0) ({ frames := 2, cells := 1, slots := 4, locals := 24 } : Room).cells ({ frames := 2, cells := 1, slots := 4, locals := 24 } : Room).slots) (T.setTop (mkF m 8 #[.val (.ref b), .val (.int (Int32.ofNat i)), .val (.int (Int32.ofNat cs.length)), .val (.ref r), .val (.int (Int32.ofNat i))] [])) := by
    intro k
    induction k with
    | zero =>
      intro i T hi L hik hT KB O V_r V_b N X
      refine Go.st (fun _ k => XS.iload X.here hx rfl (hb hby d8_8) rfl k) ?_
      show Go p e below _ (T.setTop (mkF m 10 #[.val (.ref b), .val (.int (Int32.ofNat i)), .val (.int (Int32.ofNat cs.length)), .val (.ref r), .val (.int (Int32.ofNat i))] [(.int (Int32.ofNat i))]))
      refine Go.st (fun _ k => XS.iloadN X.here hx rfl (hb hby d8_10) rfl k) ?_
      show Go p e below _ (T.setTop (mkF m 11 #[.val (.ref b), .val (.int (Int32.ofNat i)), .val (.int (Int32.ofNat cs.length)), .val (.ref r), .val (.int (Int32.ofNat i))] [(.int (Int32.ofNat cs.length)), (.int (Int32.ofNat i))]))
      refine Go.st (fun _ k => XS.icmpYes X.here hx rfl (pc0 := 11) (pc' := 32) rfl (hb hby d8_11) rfl (Jvm.Free.XT.ii_ge_t (fun q => absurd ((own_lt (by omega) (by omega)).mp q) (by omega) : ¬ ((Int32.ofNat i) < (Int32.ofNat cs.length)))) (by decide) (by decide) k) ?_
      show Go p e below _ (T.setTop (mkF m 32 #[.val (.ref b), .val (.int (Int32.ofNat i)), .val (.int (Int32.ofNat cs.length)), .val (.ref r), .val (.int (Int32.ofNat i))] []))
      refine Go.st (fun _ k => XS.aloadN X.here hx rfl (hb hby d8_32) rfl rfl k) ?_
      show Go p e below _ (T.setTop (mkF m 33 #[.val (.ref b), .val (.int (Int32.ofNat i)), .val (.int (Int32.ofNat cs.length)), .val (.ref r), .val (.int (Int32.ofNat i))] [(.ref r)]))
      refine Go.ret X hx hlk hT hret rfl (riA rfl rfl) (hb hby d8_33) (by decide) (by decide) ?_
      rw [List.take_of_length_le (by omega)] at V_r
      exact ⟨r, kr, rfl, N, gk_r, keepE KB, V_r⟩
    | succ k ih =>
      intro i T hi L hik hT KB O V_r V_b N X
      refine Go.st (fun _ k => XS.iload X.here hx rfl (hb hby d8_8) rfl k) ?_
      show Go p e below _ (T.setTop (mkF m 10 #[.val (.ref b), .val (.int (Int32.ofNat i)), .val (.int (Int32.ofNat cs.length)), .val (.ref r), .val (.int (Int32.ofNat i))] [(.int (Int32.ofNat i))]))
      refine Go.st (fun _ k => XS.iloadN X.here hx rfl (hb hby d8_10) rfl k) ?_
      show Go p e below _ (T.setTop (mkF m 11 #[.val (.ref b), .val (.int (Int32.ofNat i)), .val (.int (Int32.ofNat cs.length)), .val (.ref r), .val (.int (Int32.ofNat i))] [(.int (Int32.ofNat cs.length)), (.int (Int32.ofNat i))]))
      refine Go.st (fun _ k => XS.icmpNo X.here hx rfl (hb hby d8_11) rfl (Jvm.Free.XT.ii_ge_f ((own_lt (by omega) (by omega)).mpr (by omega) : (Int32.ofNat i) < (Int32.ofNat cs.length))) k) ?_
      show Go p e below _ (T.setTop (mkF m 14 #[.val (.ref b), .val (.int (Int32.ofNat i)), .val (.int (Int32.ofNat cs.length)), .val (.ref r), .val (.int (Int32.ofNat i))] []))
      refine Go.st (fun _ k => XS.aloadN X.here hx rfl (hb hby d8_14) rfl rfl k) ?_
      show Go p e below _ (T.setTop (mkF m 15 #[.val (.ref b), .val (.int (Int32.ofNat i)), .val (.int (Int32.ofNat cs.length)), .val (.ref r), .val (.int (Int32.ofNat i))] [(.ref r)]))
      refine Go.st (fun _ k => XS.iload X.here hx rfl (hb hby d8_15) rfl k) ?_
      show Go p e below _ (T.setTop (mkF m 17 #[.val (.ref b), .val (.int (Int32.ofNat i)), .val (.int (Int32.ofNat cs.length)), .val (.ref r), .val (.int (Int32.ofNat i))] [(.int (Int32.ofNat i)), (.ref r)]))
      refine Go.st (fun _ k => XS.aloadN X.here hx rfl (hb hby d8_17) rfl rfl k) ?_
      show Go p e below _ (T.setTop (mkF m 18 #[.val (.ref b), .val (.int (Int32.ofNat i)), .val (.int (Int32.ofNat cs.length)), .val (.ref r), .val (.int (Int32.ofNat i))] [(.ref b), (.int (Int32.ofNat i)), (.ref r)]))
      refine Go.st (fun _ k => XS.iloadN X.here hx rfl (hb hby d8_18) rfl k) ?_
      show Go p e below _ (T.setTop (mkF m 19 #[.val (.ref b), .val (.int (Int32.ofNat i)), .val (.int (Int32.ofNat cs.length)), .val (.ref r), .val (.int (Int32.ofNat i))] [(.int (Int32.ofNat i)), (.ref b), (.int (Int32.ofNat i)), (.ref r)]))
      refine Go.caloadN (i := i) X hx hZ hT V_b (by rw [own_clamp (by omega)]; omega) (by omega) (own_ats cs i (by omega)) (hb hby d8_19) ?_
      show Go p e below _ (T.setTop (mkF m 20 #[.val (.ref b), .val (.int (Int32.ofNat i)), .val (.int (Int32.ofNat cs.length)), .val (.ref r), .val (.int (Int32.ofNat i))] [(.int (cs.getD i 0)), (.int (Int32.ofNat i)), (.ref r)]))
      have e1 : (StrChars.Road.wideBytes (cs.take i)).length = 2 * i := by rw [own_wlen, List.length_take]; omega
      have V_r := V_r.pad (pad_rep _ (.int (0 : Int32)) 2)
      refine Go.callP (argsL := [(.ref r), (.int (Int32.ofNat i)), (.int (cs.getD i 0))]) (rest := []) (W := 0) (ck := 0) (sk := 0) X hx hZ hown (hml.trans rfl) hT (hw _ (List.mem_of_getElem? (i := 50) rfl)) (hw _ (List.mem_of_getElem? (i := 51) rfl)) (hw _ (List.mem_of_getElem? (i := 31) rfl)) (hw _ (List.mem_of_getElem? (i := 52) rfl)) (by decide) pd_3 rfl rfl (Nat.le_of_ble_eq_true rfl) (hb hby d8_20) (backOf (W := 0) (met_putc l Z a0 hw [] n0 r kr (2 * cs.length) _ i (cs.getD i 0) _ O S16 ge_r V_r (by omega) (by omega) (by simp only [List.length_append, e1, List.length_replicate]; omega)) hZ (hw _ (List.mem_of_getElem? (i := 52) rfl)) (hw _ (List.mem_of_getElem? (i := 31) rfl)) (by decide) (by decide)) (by decide) (by decide) ?_
      intro v T h2 L hT hQ X
      obtain ⟨rfl, N0, K0, V_r⟩ := hQ
      have N := Fr.app N N0
      have KB := KB.trans K0 (allS (Or.inr gk_r) all0)
      have O := O.keep K0 (allS ge_r all0)
      have V_b := V_b.keep K0 (ninS ne_br nin0)
      have V_r : Arv Z h2 r kr .byte (Int32.ofNat (2 * cs.length)) (StrChars.Road.wideBytes (cs.take (i + 1))) (.int 0) := by
        have e2 := own_set2 (StrChars.Road.wideBytes (cs.take i)) (.int (0 : Int32)) (.int (0 : Int32)) (.int (StrChars.lo8 (cs.getD i 0))) (.int (StrChars.hi8 (cs.getD i 0)))
        rw [e1] at e2
        rw [own_take cs i (by omega), own_wapp]
        exact e2 ▸ V_r
      show Go p e below _ (T.setTop (mkF m 23 #[.val (.ref b), .val (.int (Int32.ofNat i)), .val (.int (Int32.ofNat cs.length)), .val (.ref r), .val (.int (Int32.ofNat i))] []))
      refine Go.st (fun _ k => XS.iinc X.here hx rfl (hb hby d8_23) rfl (l' := #[.val (.ref b), .val (.int ((Int32.ofNat i) + (1 : Int32))), .val (.int (Int32.ofNat cs.length)), .val (.ref r), .val (.int (Int32.ofNat i))]) rfl k) ?_
      show Go p e below _ (T.setTop (mkF m 26 #[.val (.ref b), .val (.int ((Int32.ofNat i) + (1 : Int32))), .val (.int (Int32.ofNat cs.length)), .val (.ref r), .val (.int (Int32.ofNat i))] []))
      refine Go.st (fun _ k => XS.iinc X.here hx rfl (hb hby d8_26) rfl (l' := #[.val (.ref b), .val (.int ((Int32.ofNat i) + (1 : Int32))), .val (.int (Int32.ofNat cs.length)), .val (.ref r), .val (.int ((Int32.ofNat i) + (1 : Int32)))]) rfl k) ?_
      show Go p e below _ (T.setTop (mkF m 29 #[.val (.ref b), .val (.int ((Int32.ofNat i) + (1 : Int32))), .val (.int (Int32.ofNat cs.length)), .val (.ref r), .val (.int ((Int32.ofNat i) + (1 : Int32)))] []))
      refine Go.st (fun _ k => XS.goto X.here hx rfl (pc0 := 29) (pc' := 8) rfl (hb hby d8_29) (by decide) (by decide) k) ?_
      show Go p e below _ (T.setTop (mkF m 8 #[.val (.ref b), .val (.int ((Int32.ofNat i) + (1 : Int32))), .val (.int (Int32.ofNat cs.length)), .val (.ref r), .val (.int ((Int32.ofNat i) + (1 : Int32)))] []))
      rw [own_succ]
      exact ih (i + 1) T _ _ (by omega) hT KB O V_r V_b N X
  exact loop cs.length 0 T _ _ (by omega) hT KB O V_r V_b (Fr.nil n0) X
def QC3 (Z : State) (n0 : Nat) (cs : List Int32) (h0 : Heap) (v : Option Value) (h : Heap) (L : List Loc) : Prop := ∃ (r : Addr) (kr : ClassId) (cd N2 : Int32) (vs : List Value), v = some (.ref r) ∧ Fr n0 L ∧ h0.size ≤ r ∧ Ext h0 h ∧ Arv Z h r kr .byte N2 vs (.int 0) ∧ StrChars.Road.CodA cs cd N2 vs
theorem own_getmem (cs : List Int32) (i : Nat) (h : i < cs.length) : cs.getD i 0 ∈ cs := by rw [List.getD_eq_getElem?_getD, List.getElem?_eq_getElem h]; exact List.getElem_mem h
theorem pd_4 : parseMethodDescriptor "([CI[BII)I" = some ⟨[(.array .char), .int, (.array .byte), .int, .int], (some .int)⟩ := by decide +kernel
theorem pd_5 : parseMethodDescriptor "([CII)[B" = some ⟨[(.array .char), .int, .int], (some (.array .byte))⟩ := by decide +kernel
theorem pd_6 : parseMethodDescriptor "([BI)C" = some ⟨[(.array .byte), .int], (some .char)⟩ := by decide +kernel
theorem d5_0 : decode jdk_52_method_16_code 0 = .ok (.iload_n 2, 1) := by decide +kernel
theorem d5_1 : decode jdk_52_method_16_code 1 = .ok (.newarray .byte, 2) := by decide +kernel
theorem d5_3 : decode jdk_52_method_16_code 3 = .ok (.astore_n 3, 1) := by decide +kernel
theorem d5_4 : decode jdk_52_method_16_code 4 = .ok (.aload_n 0, 1) := by decide +kernel
theorem d5_5 : decode jdk_52_method_16_code 5 = .ok (.iload_n 1, 1) := by decide +kernel
theorem d5_6 : decode jdk_52_method_16_code 6 = .ok (.aload_n 3, 1) := by decide +kernel
theorem d5_7 : decode jdk_52_method_16_code 7 = .ok (.iconst 0, 1) := by decide +kernel
theorem d5_8 : decode jdk_52_method_16_code 8 = .ok (.iload_n 2, 1) := by decide +kernel
theorem d5_9 : decode jdk_52_method_16_code 9 = .ok (.invokestatic 115, 3) := by decide +kernel
theorem d5_12 : decode jdk_52_method_16_code 12 = .ok (.istore 4, 2) := by decide +kernel
theorem d5_14 : decode jdk_52_method_16_code 14 = .ok (.iload 4, 2) := by decide +kernel
theorem d5_16 : decode jdk_52_method_16_code 16 = .ok (.iload_n 2, 1) := by decide +kernel
theorem d5_17 : decode jdk_52_method_16_code 17 = .ok (.if_icmp .eq 40, 3) := by decide +kernel
theorem d5_20 : decode jdk_52_method_16_code 20 = .ok (.aload_n 0, 1) := by decide +kernel
theorem d5_21 : decode jdk_52_method_16_code 21 = .ok (.iload_n 1, 1) := by decide +kernel
theorem d5_22 : decode jdk_52_method_16_code 22 = .ok (.iload_n 2, 1) := by decide +kernel
theorem d5_23 : decode jdk_52_method_16_code 23 = .ok (.invokestatic 119, 3) := by decide +kernel
theorem d5_26 : decode jdk_52_method_16_code 26 = .ok (.astore 5, 2) := by decide +kernel
theorem d5_28 : decode jdk_52_method_16_code 28 = .ok (.aload 5, 2) := by decide +kernel
theorem d5_30 : decode jdk_52_method_16_code 30 = .ok (.iload 4, 2) := by decide +kernel
theorem d5_32 : decode jdk_52_method_16_code 32 = .ok (.invokestatic 71, 3) := by decide +kernel
theorem d5_35 : decode jdk_52_method_16_code 35 = .ok (.sipush 255, 3) := by decide +kernel
theorem d5_38 : decode jdk_52_method_16_code 38 = .ok (.if_icmp .gt 16, 3) := by decide +kernel
theorem d5_54 : decode jdk_52_method_16_code 54 = .ok (.aload 5, 2) := by decide +kernel
theorem d5_56 : decode jdk_52_method_16_code 56 = .ok (.areturn, 1) := by decide +kernel
theorem d5_57 : decode jdk_52_method_16_code 57 = .ok (.aload_n 3, 1) := by decide +kernel
theorem d5_58 : decode jdk_52_method_16_code 58 = .ok (.areturn, 1) := by decide +kernel
theorem pn_8 : plainFor (⟨"java/lang/StringUTF16", "compress", "([CII)[B"⟩ : MethodName) = true := by first | exact plainFor_of_name (by first | (simp [plainName, overriddenIn]; done) | decide +kernel) | decide +kernel
theorem ef_AII_6 (m : MethodId) (y0 : Addr) (y1 : Int32) (y2 : Int32) : entryFrame m #[(.ref y0), (.int y1), (.int y2)] 6 = mkF m 0 #[.val (.ref y0), .val (.int y1), .val (.int y2), .unset, .unset, .unset] [] := by first | (simp [entryFrame, mkF, argsToLocals, Value.category]; done) | rfl
set_option maxRecDepth 65536 in
set_option maxHeartbeats 40000000 in
theorem met_cmp3 (l : Launch) (Z : State) (a0 : Array Value) (hw : ∀ d ∈ tables_1, d.before a0 Z = true) (ws : List Jvm.Cond) (n0 : Nat) (b : Addr) (kC : ClassId) (cs : List Int32) (h0 : Heap) (O : Old Z n0 h0) (S16 : St16 Z) (V_b : Arv Z h0 b kC .char (Int32.ofNat cs.length) (cs.map Value.int) (.int 0)) (hn : cs.length ≤ 2) (hp : ∀ c ∈ cs, ¬ c < 0 ∧ ¬ (65535 : Int32) < c) :
    MetFree l (⟨"java/lang/StringUTF16", "compress", "([CII)[B"⟩ : MethodName) (head1 (Jvm.Cond.code (⟨"java/lang/StringUTF16", "compress", "([CII)[B"⟩ : MethodName) jdk_52_method_16_code 6 (some (.array .byte)) :: ws) ({ frames := 3, cells := 2, slots := 6, locals := 40 } : Room)) (fun aa U => aa = #[(.ref b), (.int (0 : Int32)), (.int (Int32.ofNat cs.length))] ∧ Z.Warmed39 U.vm ∧ U.heap = h0) (fun _ _ _ _ _ => True) (fun _ U o U' => ∃ v L, o = .returned v ∧ QC3 Z n0 cs h0 v U'.heap L ∧ FrameEnd U o U' L ({ frames := 3, cells := 2, slots := 6, locals := 40 } : Room).cells ({ frames := 3, cells := 2, slots := 6, locals := 40 } : Room).slots) := by
  refine openP (y := (⟨"java/lang/StringUTF16", "compress", "([CII)[B"⟩ : MethodName)) pn_8 ?_
  intro p e s m below meth c T hx hby hml hret hlk hnm hZ hown X hT
  refine Go.st (fun _ k => castTop (ef_AII_6 m b (0 : Int32) (Int32.ofNat cs.length)) k) ?_
  show Go p e below _ (T.setTop (mkF m 0 #[.val (.ref b), .val (.int (0 : Int32)), .val (.int (Int32.ofNat cs.length)), .unset, .unset, .unset] []))
  refine Go.st (fun _ k => XS.iloadN X.here hx rfl (hb hby d5_0) rfl k) ?_
  show Go p e below _ (T.setTop (mkF m 1 #[.val (.ref b), .val (.int (0 : Int32)), .val (.int (Int32.ofNat cs.length)), .unset, .unset, .unset] [(.int (Int32.ofNat cs.length))]))
  have lt_b := V_b.lt
  refine Go.newA (n := cs.length) (cap := 2) X hx hZ hT (hw _ (List.mem_of_getElem? (i := 21) rfl)) (hb hby d5_1) (by omega) hn (by decide) (by decide) (by decide) ?_
  intro d T h1 kd g_d hT Ex0 V_d X
  have V_b := V_b.ext Ex0
  have ne_bd : b ≠ d := Nat.ne_of_lt (by rw [g_d]; exact lt_b)
  have ge_d : n0 ≤ d := Nat.le_trans (own_le O) (Nat.le_of_eq g_d.symm)
  have gk_d : h0.size ≤ d := Nat.le_of_eq g_d.symm
  have O := O.ext Ex0
  have KB := extK Ex0
  have N := Fr.nil n0
  show Go p e below _ (T.setTop (mkF m 3 #[.val (.ref b), .val (.int (0 : Int32)), .val (.int (Int32.ofNat cs.length)), .unset, .unset, .unset] [(.ref d)]))
  refine Go.st (fun _ k => XS.astoreN X.here hx rfl (hb hby d5_3) rfl rfl (l' := #[.val (.ref b), .val (.int (0 : Int32)), .val (.int (Int32.ofNat cs.length)), .val (.ref d), .unset, .unset]) rfl k) ?_
  show Go p e below _ (T.setTop (mkF m 4 #[.val (.ref b), .val (.int (0 : Int32)), .val (.int (Int32.ofNat cs.length)), .val (.ref d), .unset, .unset] []))
  refine Go.st (fun _ k => XS.aloadN X.here hx rfl (hb hby d5_4) rfl rfl k) ?_
  show Go p e below _ (T.setTop (mkF m 5 #[.val (.ref b), .val (.int (0 : Int32)), .val (.int (Int32.ofNat cs.length)), .val (.ref d), .unset, .unset] [(.ref b)]))
  refine Go.st (fun _ k => XS.iloadN X.here hx rfl (hb hby d5_5) rfl k) ?_
  show Go p e below _ (T.setTop (mkF m 6 #[.val (.ref b), .val (.int (0 : Int32)), .val (.int (Int32.ofNat cs.length)), .val (.ref d), .unset, .unset] [(.int (0 : Int32)), (.ref b)]))
  refine Go.st (fun _ k => XS.aloadN X.here hx rfl (hb hby d5_6) rfl rfl k) ?_
  show Go p e below _ (T.setTop (mkF m 7 #[.val (.ref b), .val (.int (0 : Int32)), .val (.int (Int32.ofNat cs.length)), .val (.ref d), .unset, .unset] [(.ref d), (.int (0 : Int32)), (.ref b)]))
  refine Go.st (fun _ k => XS.iconst X.here hx rfl (hb hby d5_7) k) ?_
  show Go p e below _ (T.setTop (mkF m 8 #[.val (.ref b), .val (.int (0 : Int32)), .val (.int (Int32.ofNat cs.length)), .val (.ref d), .unset, .unset] [(.int (0 : Int32)), (.ref d), (.int (0 : Int32)), (.ref b)]))
  refine Go.st (fun _ k => XS.iloadN X.here hx rfl (hb hby d5_8) rfl k) ?_
  show Go p e below _ (T.setTop (mkF m 9 #[.val (.ref b), .val (.int (0 : Int32)), .val (.int (Int32.ofNat cs.length)), .val (.ref d), .unset, .unset] [(.int (Int32.ofNat cs.length)), (.int (0 : Int32)), (.ref d), (.int (0 : Int32)), (.ref b)]))
  refine Go.callP (argsL := [(.ref b), (.int (0 : Int32)), (.ref d), (.int (0 : Int32)), (.int (Int32.ofNat cs.length))]) (rest := []) (W := 0) (ck := 0) (sk := 0) X hx hZ hown (hml.trans rfl) hT (hw _ (List.mem_of_getElem? (i := 33) rfl)) (hw _ (List.mem_of_getElem? (i := 34) rfl)) (hw _ (List.mem_of_getElem? (i := 31) rfl)) (hw _ (List.mem_of_getElem? (i := 35) rfl)) (by decide) pd_4 rfl rfl (Nat.le_of_ble_eq_true rfl) (hb hby d5_9) (backOf (W := 0) (met_cmp5 l Z a0 hw [] n0 b d kC kd cs _ ge_d ne_bd V_b V_d hn) hZ (hw _ (List.mem_of_getElem? (i := 35) rfl)) (hw _ (List.mem_of_getElem? (i := 31) rfl)) (by decide) (by decide)) (by decide) (by decide) ?_
  intro v T h2 L hT hQ X
  obtain ⟨rfl, N0, K0, V_d⟩ := hQ
  have N := Fr.app N N0
  have KB := KB.trans K0 (allS (Or.inr gk_d) all0)
  have O := O.keep K0 (allS ge_d all0)
  have V_b := V_b.keep K0 (ninS ne_bd nin0)
  show Go p e below _ (T.setTop (mkF m 12 #[.val (.ref b), .val (.int (0 : Int32)), .val (.int (Int32.ofNat cs.length)), .val (.ref d), .unset, .unset] [(.int (Int32.ofNat (fstW cs)))]))
  refine Go.st (fun _ k => XS.istore X.here hx rfl (hb hby d5_12) rfl (l' := #[.val (.ref b), .val (.int (0 : Int32)), .val (.int (Int32.ofNat cs.length)), .val (.ref d), .val (.int (Int32.ofNat (fstW cs))), .unset]) rfl k) ?_
  show Go p e below _ (T.setTop (mkF m 14 #[.val (.ref b), .val (.int (0 : Int32)), .val (.int (Int32.ofNat cs.length)), .val (.ref d), .val (.int (Int32.ofNat (fstW cs))), .unset] []))
  refine Go.st (fun _ k => XS.iload X.here hx rfl (hb hby d5_14) rfl k) ?_
  show Go p e below _ (T.setTop (mkF m 16 #[.val (.ref b), .val (.int (0 : Int32)), .val (.int (Int32.ofNat cs.length)), .val (.ref d), .val (.int (Int32.ofNat (fstW cs))), .unset] [(.int (Int32.ofNat (fstW cs)))]))
  refine Go.st (fun _ k => XS.iloadN X.here hx rfl (hb hby d5_16) rfl k) ?_
  show Go p e below _ (T.setTop (mkF m 17 #[.val (.ref b), .val (.int (0 : Int32)), .val (.int (Int32.ofNat cs.length)), .val (.ref d), .val (.int (Int32.ofNat (fstW cs))), .unset] [(.int (Int32.ofNat cs.length)), (.int (Int32.ofNat (fstW cs)))]))
  by_cases hne : (Int32.ofNat (fstW cs)) = (Int32.ofNat cs.length)
  · refine Go.st (fun _ k => XS.icmpYes X.here hx rfl (pc0 := 17) (pc' := 57) rfl (hb hby d5_17) rfl (Jvm.Free.XT.ii_eq_t hne) (by decide) (by decide) k) ?_
    show Go p e below _ (T.setTop (mkF m 57 #[.val (.ref b), .val (.int (0 : Int32)), .val (.int (Int32.ofNat cs.length)), .val (.ref d), .val (.int (Int32.ofNat (fstW cs))), .unset] []))
    refine Go.st (fun _ k => XS.aloadN X.here hx rfl (hb hby d5_57) rfl rfl k) ?_
    show Go p e below _ (T.setTop (mkF m 58 #[.val (.ref b), .val (.int (0 : Int32)), .val (.int (Int32.ofNat cs.length)), .val (.ref d), .val (.int (Int32.ofNat (fstW cs))), .unset] [(.ref d)]))
    refine Go.ret X hx hlk hT hret rfl (riA rfl rfl) (hb hby d5_58) (by decide) (by decide) ?_
    have hq := (own_eqN (by have := fstW_le cs; omega) (by omega)).mp hne
    exact ⟨d, kd, 0, _, _, rfl, N, gk_d, keepE KB, V_d hq, Or.inl ⟨rfl, rfl, rfl, fstW_eq cs hq⟩⟩
  · refine Go.st (fun _ k => XS.icmpNo X.here hx rfl (hb hby d5_17) rfl (Jvm.Free.XT.ii_eq_f hne) k) ?_
    show Go p e below _ (T.setTop (mkF m 20 #[.val (.ref b), .val (.int (0 : Int32)), .val (.int (Int32.ofNat cs.length)), .val (.ref d), .val (.int (Int32.ofNat (fstW cs))), .unset] []))
    refine Go.st (fun _ k => XS.aloadN X.here hx rfl (hb hby d5_20) rfl rfl k) ?_
    show Go p e below _ (T.setTop (mkF m 21 #[.val (.ref b), .val (.int (0 : Int32)), .val (.int (Int32.ofNat cs.length)), .val (.ref d), .val (.int (Int32.ofNat (fstW cs))), .unset] [(.ref b)]))
    refine Go.st (fun _ k => XS.iloadN X.here hx rfl (hb hby d5_21) rfl k) ?_
    show Go p e below _ (T.setTop (mkF m 22 #[.val (.ref b), .val (.int (0 : Int32)), .val (.int (Int32.ofNat cs.length)), .val (.ref d), .val (.int (Int32.ofNat (fstW cs))), .unset] [(.int (0 : Int32)), (.ref b)]))
    refine Go.st (fun _ k => XS.iloadN X.here hx rfl (hb hby d5_22) rfl k) ?_
    show Go p e below _ (T.setTop (mkF m 23 #[.val (.ref b), .val (.int (0 : Int32)), .val (.int (Int32.ofNat cs.length)), .val (.ref d), .val (.int (Int32.ofNat (fstW cs))), .unset] [(.int (Int32.ofNat cs.length)), (.int (0 : Int32)), (.ref b)]))
    refine Go.callP (argsL := [(.ref b), (.int (0 : Int32)), (.int (Int32.ofNat cs.length))]) (rest := []) (W := 0) (ck := 1) (sk := 4) X hx hZ hown (hml.trans rfl) hT (hw _ (List.mem_of_getElem? (i := 40) rfl)) (hw _ (List.mem_of_getElem? (i := 41) rfl)) (hw _ (List.mem_of_getElem? (i := 31) rfl)) (hw _ (List.mem_of_getElem? (i := 42) rfl)) (by decide) pd_5 rfl rfl (Nat.le_of_ble_eq_true rfl) (hb hby d5_23) (backOf (W := 0) (met_tob l Z a0 hw [] n0 b kC cs _ O S16 V_b hn) hZ (hw _ (List.mem_of_getElem? (i := 42) rfl)) (hw _ (List.mem_of_getElem? (i := 31) rfl)) (by decide) (by decide)) (by decide) (by decide) ?_
    intro v T h3 L hT hQ X
    obtain ⟨r, kr, rfl, N0, gk_r, Ex0, V_r⟩ := hQ
    have N := Fr.app N N0
    have gk_r := Nat.le_trans KB.1 gk_r
    have KB := KB.ext Ex0
    have O := O.ext Ex0
    show Go p e below _ (T.setTop (mkF m 26 #[.val (.ref b), .val (.int (0 : Int32)), .val (.int (Int32.ofNat cs.length)), .val (.ref d), .val (.int (Int32.ofNat (fstW cs))), .unset] [(.ref r)]))
    refine Go.st (fun _ k => XS.astore X.here hx rfl (hb hby d5_26) rfl rfl (l' := #[.val (.ref b), .val (.int (0 : Int32)), .val (.int (Int32.ofNat cs.length)), .val (.ref d), .val (.int (Int32.ofNat (fstW cs))), .val (.ref r)]) rfl k) ?_
    show Go p e below _ (T.setTop (mkF m 28 #[.val (.ref b), .val (.int (0 : Int32)), .val (.int (Int32.ofNat cs.length)), .val (.ref d), .val (.int (Int32.ofNat (fstW cs))), .val (.ref r)] []))
    refine Go.st (fun _ k => XS.aload X.here hx rfl (hb hby d5_28) rfl rfl k) ?_
    show Go p e below _ (T.setTop (mkF m 30 #[.val (.ref b), .val (.int (0 : Int32)), .val (.int (Int32.ofNat cs.length)), .val (.ref d), .val (.int (Int32.ofNat (fstW cs))), .val (.ref r)] [(.ref r)]))
    refine Go.st (fun _ k => XS.iload X.here hx rfl (hb hby d5_30) rfl k) ?_
    show Go p e below _ (T.setTop (mkF m 32 #[.val (.ref b), .val (.int (0 : Int32)), .val (.int (Int32.ofNat cs.length)), .val (.ref d), .val (.int (Int32.ofNat (fstW cs))), .val (.ref r)] [(.int (Int32.ofNat (fstW cs))), (.ref r)]))
    have hlt := fstW_lt cs (fun q => hne (by rw [q]))
    refine Go.callV (argsL := [(.ref r), (.int (Int32.ofNat (fstW cs)))]) (rest := []) (W := 0) X hx hZ hown (hml.trans rfl) hT (hw _ (List.mem_of_getElem? (i := 56) rfl)) (hw _ (List.mem_of_getElem? (i := 57) rfl)) (hw _ (List.mem_of_getElem? (i := 31) rfl)) (hw _ (List.mem_of_getElem? (i := 58) rfl)) (by decide) pd_6 rfl rfl (Nat.le_of_ble_eq_true rfl) (hb hby d5_32) (backOf (W := 0) (met_getc l Z a0 hw [] n0 r kr cs (fstW cs) _ O S16 V_r hn hlt.1 (hp _ (own_getmem cs _ hlt.1))) hZ (hw _ (List.mem_of_getElem? (i := 58) rfl)) (hw _ (List.mem_of_getElem? (i := 31) rfl)) (by decide) (by decide)) (by decide) (by decide) ?_
    intro T hT X
    show Go p e below _ (T.setTop (mkF m 35 #[.val (.ref b), .val (.int (0 : Int32)), .val (.int (Int32.ofNat cs.length)), .val (.ref d), .val (.int (Int32.ofNat (fstW cs))), .val (.ref r)] [(.int (cs.getD (fstW cs) 0))]))
    refine Go.st (fun _ k => XS.sipush X.here hx rfl (hb hby d5_35) k) ?_
    show Go p e below _ (T.setTop (mkF m 38 #[.val (.ref b), .val (.int (0 : Int32)), .val (.int (Int32.ofNat cs.length)), .val (.ref d), .val (.int (Int32.ofNat (fstW cs))), .val (.ref r)] [(.int (255 : Int32)), (.int (cs.getD (fstW cs) 0))]))
    refine Go.st (fun _ k => XS.icmpYes X.here hx rfl (pc0 := 38) (pc' := 54) rfl (hb hby d5_38) rfl (Jvm.Free.XT.ii_gt_t (hlt.2 : (255 : Int32) < (cs.getD (fstW cs) 0))) (by decide) (by decide) k) ?_
    show Go p e below _ (T.setTop (mkF m 54 #[.val (.ref b), .val (.int (0 : Int32)), .val (.int (Int32.ofNat cs.length)), .val (.ref d), .val (.int (Int32.ofNat (fstW cs))), .val (.ref r)] []))
    refine Go.st (fun _ k => XS.aload X.here hx rfl (hb hby d5_54) rfl rfl k) ?_
    show Go p e below _ (T.setTop (mkF m 56 #[.val (.ref b), .val (.int (0 : Int32)), .val (.int (Int32.ofNat cs.length)), .val (.ref d), .val (.int (Int32.ofNat (fstW cs))), .val (.ref r)] [(.ref r)]))
    refine Go.ret X hx hlk hT hret rfl (riA rfl rfl) (hb hby d5_56) (by decide) (by decide) ?_
    exact ⟨r, kr, 1, _, _, rfl, N, gk_r, keepE KB, V_r, Or.inr ⟨rfl, rfl, rfl, _, own_getmem cs _ hlt.1, hlt.2⟩⟩
theorem own_cfal {cs : List Int32} {cd N2 : Int32} {vs : List Value} (hc : StrChars.Road.CodA cs cd N2 vs) (hpos : 0 < cs.length) (hn : cs.length ≤ 2) : ((((Int32.ofNat cs.length - N2)).toUInt32 >>> ((31 : Int32) &&& 31).toUInt32).toInt32.toInt8.toInt32) = cd := by
  have key : ∀ (n : Nat), n ≤ 2 → 0 < n → ((((Int32.ofNat n - Int32.ofNat (2 * n))).toUInt32 >>> ((31 : Int32) &&& 31).toUInt32).toInt32.toInt8.toInt32) = 1 := by
    intro n h1 h2
    have e1 := c_iushr (Int32.ofNat n - Int32.ofNat (2 * n)) 31 31 (by decide) (by decide)
    have e2 : (Int32.ofNat n - Int32.ofNat (2 * n)).toInt = -(n : Int) := by
      rw [Jvm.Free.XT.sub32 (by rw [own_int (by omega), own_int (by omega)]; constructor <;> omega), own_int (by omega), own_int (by omega)]; omega
    rw [e2] at e1
    have e3 : (((Int32.ofNat n - Int32.ofNat (2 * n)).toUInt32 >>> ((31 : Int32) &&& 31).toUInt32).toInt32).toInt = 1 := by rw [e1]; show (-(n : Int) % 4294967296) / 2147483648 = 1; omega
    have e4 : (((Int32.ofNat n - Int32.ofNat (2 * n)).toUInt32 >>> ((31 : Int32) &&& 31).toUInt32).toInt32) = 1 := Int32.toInt_inj.mp e3
    rw [e4]; decide
  rcases hc with ⟨rfl, rfl, -⟩ | ⟨rfl, rfl, -⟩
  · rw [Int32.sub_self]; decide
  · exact key _ hn hpos
theorem d7_0 : decode jdk_52_method_15_code 0 = .ok (.iload_n 1, 1) := by decide +kernel
theorem d7_1 : decode jdk_52_method_15_code 1 = .ok (.aload_n 0, 1) := by decide +kernel
theorem d7_2 : decode jdk_52_method_15_code 2 = .ok (.arraylength, 1) := by decide +kernel
theorem d7_3 : decode jdk_52_method_15_code 3 = .ok (.isub, 1) := by decide +kernel
theorem d7_4 : decode jdk_52_method_15_code 4 = .ok (.bipush 31, 2) := by decide +kernel
theorem d7_6 : decode jdk_52_method_15_code 6 = .ok (.iushr, 1) := by decide +kernel
theorem d7_7 : decode jdk_52_method_15_code 7 = .ok (.i2b, 1) := by decide +kernel
theorem d7_8 : decode jdk_52_method_15_code 8 = .ok (.ireturn, 1) := by decide +kernel
theorem pn_9 : plainFor (⟨"java/lang/StringUTF16", "coderFromArrayLen", "([BI)B"⟩ : MethodName) = true := by first | exact plainFor_of_name (by first | (simp [plainName, overriddenIn]; done) | decide +kernel) | decide +kernel
set_option maxRecDepth 65536 in
set_option maxHeartbeats 40000000 in
theorem met_cfal (l : Launch) (Z : State) (a0 : Array Value) (hw : ∀ d ∈ tables_1, d.before a0 Z = true) (ws : List Jvm.Cond) (d : Addr) (kd : ClassId) (cs : List Int32) (cd N2 : Int32) (vs : List Value) (h0 : Heap) (V_d : Arv Z h0 d kd .byte N2 vs (.int 0)) (hc : StrChars.Road.CodA cs cd N2 vs) (hpos : 0 < cs.length) (hn : cs.length ≤ 2) :
    MetFree l (⟨"java/lang/StringUTF16", "coderFromArrayLen", "([BI)B"⟩ : MethodName) (head1 (Jvm.Cond.code (⟨"java/lang/StringUTF16", "coderFromArrayLen", "([BI)B"⟩ : MethodName) jdk_52_method_15_code 2 (some .byte) :: ws) ({ frames := 0, cells := 0, slots := 0, locals := 0 } : Room)) (fun aa U => aa = #[(.ref d), (.int (Int32.ofNat cs.length))] ∧ Z.Warmed39 U.vm ∧ U.heap = h0) (fun _ _ _ _ _ => True) (fun _ U o U' => ∃ v L, o = .returned v ∧ QV (.int cd) h0 v U'.heap L ∧ FrameEnd U o U' L ({ frames := 0, cells := 0, slots := 0, locals := 0 } : Room).cells ({ frames := 0, cells := 0, slots := 0, locals := 0 } : Room).slots) := by
  refine openP (y := (⟨"java/lang/StringUTF16", "coderFromArrayLen", "([BI)B"⟩ : MethodName)) pn_9 ?_
  intro p e s m below meth c T hx hby hml hret hlk hnm hZ hown X hT
  refine Go.st (fun _ k => castTop (ef_AI_2 m d (Int32.ofNat cs.length)) k) ?_
  show Go p e below _ (T.setTop (mkF m 0 #[.val (.ref d), .val (.int (Int32.ofNat cs.length))] []))
  refine Go.st (fun _ k => XS.iloadN X.here hx rfl (hb hby d7_0) rfl k) ?_
  show Go p e below _ (T.setTop (mkF m 1 #[.val (.ref d), .val (.int (Int32.ofNat cs.length))] [(.int (Int32.ofNat cs.length))]))
  refine Go.st (fun _ k => XS.aloadN X.here hx rfl (hb hby d7_1) rfl rfl k) ?_
  show Go p e below _ (T.setTop (mkF m 2 #[.val (.ref d), .val (.int (Int32.ofNat cs.length))] [(.ref d), (.int (Int32.ofNat cs.length))]))
  refine Go.alen X hx hZ hT V_d (hb hby d7_2) ?_
  show Go p e below _ (T.setTop (mkF m 3 #[.val (.ref d), .val (.int (Int32.ofNat cs.length))] [(.int N2), (.int (Int32.ofNat cs.length))]))
  refine Go.st (fun _ k => XS.isub X.here hx rfl (hb hby d7_3) rfl k) ?_
  show Go p e below _ (T.setTop (mkF m 4 #[.val (.ref d), .val (.int (Int32.ofNat cs.length))] [(.int ((Int32.ofNat cs.length) - N2))]))
  refine Go.st (fun _ k => XS.bipush X.here hx rfl (hb hby d7_4) k) ?_
  show Go p e below _ (T.setTop (mkF m 6 #[.val (.ref d), .val (.int (Int32.ofNat cs.length))] [(.int (31 : Int32)), (.int ((Int32.ofNat cs.length) - N2))]))
  refine Go.st (fun _ k => XS.iushr X.here hx rfl (hb hby d7_6) rfl k) ?_
  show Go p e below _ (T.setTop (mkF m 7 #[.val (.ref d), .val (.int (Int32.ofNat cs.length))] [(.int (((((Int32.ofNat cs.length) - N2)).toUInt32 >>> ((31 : Int32) &&& 31).toUInt32).toInt32))]))
  refine Go.st (fun _ k => XS.i2b X.here hx rfl (hb hby d7_7) rfl k) ?_
  show Go p e below _ (T.setTop (mkF m 8 #[.val (.ref d), .val (.int (Int32.ofNat cs.length))] [(.int ((((((Int32.ofNat cs.length) - N2)).toUInt32 >>> ((31 : Int32) &&& 31).toUInt32).toInt32).toInt8.toInt32))]))
  refine Go.ret X hx hlk hT hret (Jvm.Free.XT.narrow_b _) (riI (by simp)) (hb hby d7_8) (by decide) (by decide) ?_
  exact ⟨congrArg (fun z => some (Value.int z)) (own_cfal hc hpos hn), rfl, rfl⟩
theorem own_ncd {cd : Int32} (h : cd = 0 ∨ cd = 1) : narrow .byte (.int cd) = .int cd := by rcases h with rfl | rfl <;> decide
theorem own_fcd {cd : Int32} (h : cd = 0 ∨ cd = 1) : fits .byte (.int cd) = true := by rcases h with rfl | rfl <;> decide
theorem pd_7 : parseMethodDescriptor "([BI)B" = some ⟨[(.array .byte), .int], (some .byte)⟩ := by decide +kernel
theorem d3_27 : decode jdk_42_method_149_code 27 = .ok (.getstatic 38, 3) := by decide +kernel
theorem d3_30 : decode jdk_42_method_149_code 30 = .ok (.ifCond .eq 28, 3) := by decide +kernel
theorem d3_33 : decode jdk_42_method_149_code 33 = .ok (.aload_n 1, 1) := by decide +kernel
theorem d3_34 : decode jdk_42_method_149_code 34 = .ok (.iload_n 2, 1) := by decide +kernel
theorem d3_35 : decode jdk_42_method_149_code 35 = .ok (.iload_n 3, 1) := by decide +kernel
theorem d3_36 : decode jdk_42_method_149_code 36 = .ok (.invokestatic 177, 3) := by decide +kernel
theorem d3_39 : decode jdk_42_method_149_code 39 = .ok (.astore 5, 2) := by decide +kernel
theorem d3_41 : decode jdk_42_method_149_code 41 = .ok (.aload_n 0, 1) := by decide +kernel
theorem d3_42 : decode jdk_42_method_149_code 42 = .ok (.aload 5, 2) := by decide +kernel
theorem d3_44 : decode jdk_42_method_149_code 44 = .ok (.iload_n 3, 1) := by decide +kernel
theorem d3_45 : decode jdk_42_method_149_code 45 = .ok (.invokestatic 47, 3) := by decide +kernel
theorem d3_48 : decode jdk_42_method_149_code 48 = .ok (.putfield 15, 3) := by decide +kernel
theorem d3_51 : decode jdk_42_method_149_code 51 = .ok (.aload_n 0, 1) := by decide +kernel
theorem d3_52 : decode jdk_42_method_149_code 52 = .ok (.aload 5, 2) := by decide +kernel
theorem d3_54 : decode jdk_42_method_149_code 54 = .ok (.putfield 9, 3) := by decide +kernel
theorem d3_57 : decode jdk_42_method_149_code 57 = .ok (.return_, 1) := by decide +kernel
set_option maxRecDepth 65536 in
set_option maxHeartbeats 40000000 in
theorem met_new4n (l : Launch) (Z : State) (a0 : Array Value) (hw : ∀ d ∈ tables_1, d.before a0 Z = true) (ws : List Jvm.Cond) (n0 : Nat) (x b : Addr) (kC : ClassId) (cs : List Int32) (z : Int32) (h0 : Heap) (O : Old Z n0 h0) (ge_x : n0 ≤ x) (A_x : Exa Z h0 x ST) (F_x_value : Fld Z h0 x ST "value" "[B" .null) (F_x_coder : Fld Z h0 x ST "coder" "B" (.int (0 : Int32))) (Sc : Stat Z z) (S16 : St16 Z) (V_b : Arv Z h0 b kC .char (Int32.ofNat cs.length) (cs.map Value.int) (.int 0)) (hpos : 0 < cs.length) (hn : cs.length ≤ 2) (hp : ∀ c ∈ cs, ¬ c < 0 ∧ ¬ (65535 : Int32) < c) :
    MetFree l (⟨"java/lang/String", "<init>", "([CIILjava/lang/Void;)V"⟩ : MethodName) (head1 (Jvm.Cond.code (⟨"java/lang/String", "<init>", "([CIILjava/lang/Void;)V"⟩ : MethodName) jdk_42_method_149_code 6 none :: ws) ({ frames := 4, cells := 2, slots := 6, locals := 57 } : Room)) (fun aa U => aa = #[(.ref x), (.ref b), (.int (0 : Int32)), (.int (Int32.ofNat cs.length)), .null] ∧ Z.Warmed39 U.vm ∧ U.heap = h0) (fun _ _ _ _ _ => True) (fun _ U o U' => ∃ v L, o = .returned v ∧ QS Z x cs n0 h0 v U'.heap L ∧ FrameEnd U o U' L ({ frames := 4, cells := 2, slots := 6, locals := 57 } : Room).cells ({ frames := 4, cells := 2, slots := 6, locals := 57 } : Room).slots) := by
  refine openP (y := (⟨"java/lang/String", "<init>", "([CIILjava/lang/Void;)V"⟩ : MethodName)) pn_0 ?_
  intro p e s m below meth c T hx hby hml hret hlk hnm hZ hown X hT
  refine Go.st (fun _ k => castTop (ef_AAIIN_6 m x b (0 : Int32) (Int32.ofNat cs.length)) k) ?_
  show Go p e below _ (T.setTop (mkF m 0 #[.val (.ref x), .val (.ref b), .val (.int (0 : Int32)), .val (.int (Int32.ofNat cs.length)), .val .null, .unset] []))
  have N := Fr.nil n0
  refine Go.st (fun _ k => XS.aloadN X.here hx rfl (hb hby d3_0) rfl rfl k) ?_
  show Go p e below _ (T.setTop (mkF m 1 #[.val (.ref x), .val (.ref b), .val (.int (0 : Int32)), .val (.int (Int32.ofNat cs.length)), .val .null, .unset] [(.ref x)]))
  obtain ⟨T, X, hT, st⟩ := initO X hx hZ hown (hw _ (List.mem_of_getElem? (i := 17) rfl)) (hw _ (List.mem_of_getElem? (i := 18) rfl)) (hw _ (List.mem_of_getElem? (i := 19) rfl)) hT (g := (mkF m 1 #[.val (.ref x), .val (.ref b), .val (.int (0 : Int32)), .val (.int (Int32.ofNat cs.length)), .val .null, .unset] [(.ref x)])) rfl (by rw [hml]; rfl) rfl (hb hby d3_1) (by decide) (W := 0) (by show 2 * 0 + _ ≤ _; exact Nat.le_of_ble_eq_true rfl) (by decide)
  refine Go.st st ?_
  show Go p e below _ (T.setTop (mkF m 4 #[.val (.ref x), .val (.ref b), .val (.int (0 : Int32)), .val (.int (Int32.ofNat cs.length)), .val .null, .unset] []))
  refine Go.st (fun _ k => XS.iloadN X.here hx rfl (hb hby d3_4) rfl k) ?_
  show Go p e below _ (T.setTop (mkF m 5 #[.val (.ref x), .val (.ref b), .val (.int (0 : Int32)), .val (.int (Int32.ofNat cs.length)), .val .null, .unset] [(.int (Int32.ofNat cs.length))]))
  refine Go.st (fun _ k => XS.ifYes X.here hx rfl (pc0 := 5) (pc' := 27) rfl (hb hby d3_5) rfl (Jvm.Free.XT.i0_ne_t (fun q => absurd ((own_eqN (b := 0) (by omega) (by omega)).mp q) (by omega) : ¬ ((Int32.ofNat cs.length) = (0 : Int32)))) (by decide) (by decide) k) ?_
  show Go p e below _ (T.setTop (mkF m 27 #[.val (.ref x), .val (.ref b), .val (.int (0 : Int32)), .val (.int (Int32.ofNat cs.length)), .val .null, .unset] []))
  obtain ⟨T, X, hT, st⟩ := getS2 X hx hZ hown (host := "") (Or.inl (hw _ (List.mem_of_getElem? (i := 28) rfl))) Via.refl hT (Sc.1.ext O.2) (g := (mkF m 27 #[.val (.ref x), .val (.ref b), .val (.int (0 : Int32)), .val (.int (Int32.ofNat cs.length)), .val .null, .unset] [])) rfl (hb hby d3_27)
  refine Go.st st ?_
  show Go p e below _ (T.setTop (mkF m 30 #[.val (.ref x), .val (.ref b), .val (.int (0 : Int32)), .val (.int (Int32.ofNat cs.length)), .val .null, .unset] [(.int z)]))
  refine Go.st (fun _ k => XS.ifNo X.here hx rfl (hb hby d3_30) rfl (Jvm.Free.XT.i0_eq_f (Sc.2 : ¬ (z = (0 : Int32)))) k) ?_
  show Go p e below _ (T.setTop (mkF m 33 #[.val (.ref x), .val (.ref b), .val (.int (0 : Int32)), .val (.int (Int32.ofNat cs.length)), .val .null, .unset] []))
  refine Go.st (fun _ k => XS.aloadN X.here hx rfl (hb hby d3_33) rfl rfl k) ?_
  show Go p e below _ (T.setTop (mkF m 34 #[.val (.ref x), .val (.ref b), .val (.int (0 : Int32)), .val (.int (Int32.ofNat cs.length)), .val .null, .unset] [(.ref b)]))
  refine Go.st (fun _ k => XS.iloadN X.here hx rfl (hb hby d3_34) rfl k) ?_
  show Go p e below _ (T.setTop (mkF m 35 #[.val (.ref x), .val (.ref b), .val (.int (0 : Int32)), .val (.int (Int32.ofNat cs.length)), .val .null, .unset] [(.int (0 : Int32)), (.ref b)]))
  refine Go.st (fun _ k => XS.iloadN X.here hx rfl (hb hby d3_35) rfl k) ?_
  show Go p e below _ (T.setTop (mkF m 36 #[.val (.ref x), .val (.ref b), .val (.int (0 : Int32)), .val (.int (Int32.ofNat cs.length)), .val .null, .unset] [(.int (Int32.ofNat cs.length)), (.int (0 : Int32)), (.ref b)]))
  refine Go.callP (argsL := [(.ref b), (.int (0 : Int32)), (.int (Int32.ofNat cs.length))]) (rest := []) (W := 0) (ck := 2) (sk := 6) X hx hZ hown (hml.trans rfl) hT (hw _ (List.mem_of_getElem? (i := 29) rfl)) (hw _ (List.mem_of_getElem? (i := 30) rfl)) (hw _ (List.mem_of_getElem? (i := 31) rfl)) (hw _ (List.mem_of_getElem? (i := 32) rfl)) (by decide) pd_5 rfl rfl (Nat.le_of_ble_eq_true rfl) (hb hby d3_36) (backOf (W := 0) (met_cmp3 l Z a0 hw [] n0 b kC cs _ O S16 V_b hn hp) hZ (hw _ (List.mem_of_getElem? (i := 32) rfl)) (hw _ (List.mem_of_getElem? (i := 31) rfl)) (by decide) (by decide)) (by decide) (by decide) ?_
  intro v T h1 L hT hQ X
  obtain ⟨r, kr, cd, N2, vs, rfl, N0, gk_r, Ex0, V_r, hcod⟩ := hQ
  have N := Fr.app N N0
  have hcd : cd = 0 ∨ cd = 1 := hcod.imp (·.1) (·.1)
  have A_x := A_x.ext Ex0
  have F_x_value := F_x_value.ext Ex0
  have F_x_coder := F_x_coder.ext Ex0
  have KB := (Keep.refl h0 [x]).ext Ex0
  have ne_x_r : x ≠ r := Exa.neArv A_x V_r (hw _ (List.mem_of_getElem? (i := 7) rfl))
  show Go p e below _ (T.setTop (mkF m 39 #[.val (.ref x), .val (.ref b), .val (.int (0 : Int32)), .val (.int (Int32.ofNat cs.length)), .val .null, .unset] [(.ref r)]))
  refine Go.st (fun _ k => XS.astore X.here hx rfl (hb hby d3_39) rfl rfl (l' := #[.val (.ref x), .val (.ref b), .val (.int (0 : Int32)), .val (.int (Int32.ofNat cs.length)), .val .null, .val (.ref r)]) rfl k) ?_
  show Go p e below _ (T.setTop (mkF m 41 #[.val (.ref x), .val (.ref b), .val (.int (0 : Int32)), .val (.int (Int32.ofNat cs.length)), .val .null, .val (.ref r)] []))
  refine Go.st (fun _ k => XS.aloadN X.here hx rfl (hb hby d3_41) rfl rfl k) ?_
  show Go p e below _ (T.setTop (mkF m 42 #[.val (.ref x), .val (.ref b), .val (.int (0 : Int32)), .val (.int (Int32.ofNat cs.length)), .val .null, .val (.ref r)] [(.ref x)]))
  refine Go.st (fun _ k => XS.aload X.here hx rfl (hb hby d3_42) rfl rfl k) ?_
  show Go p e below _ (T.setTop (mkF m 44 #[.val (.ref x), .val (.ref b), .val (.int (0 : Int32)), .val (.int (Int32.ofNat cs.length)), .val .null, .val (.ref r)] [(.ref r), (.ref x)]))
  refine Go.st (fun _ k => XS.iloadN X.here hx rfl (hb hby d3_44) rfl k) ?_
  show Go p e below _ (T.setTop (mkF m 45 #[.val (.ref x), .val (.ref b), .val (.int (0 : Int32)), .val (.int (Int32.ofNat cs.length)), .val .null, .val (.ref r)] [(.int (Int32.ofNat cs.length)), (.ref r), (.ref x)]))
  refine Go.callV (argsL := [(.ref r), (.int (Int32.ofNat cs.length))]) (rest := [(.ref x)]) (W := 1) X hx hZ hown (hml.trans rfl) hT (hw _ (List.mem_of_getElem? (i := 36) rfl)) (hw _ (List.mem_of_getElem? (i := 37) rfl)) (hw _ (List.mem_of_getElem? (i := 31) rfl)) (hw _ (List.mem_of_getElem? (i := 38) rfl)) (by decide) pd_7 rfl rfl (Nat.le_of_ble_eq_true rfl) (hb hby d3_45) (backOf (W := 1) (met_cfal l Z a0 hw [] r kr cs cd N2 vs _ V_r hcod hpos hn) hZ (hw _ (List.mem_of_getElem? (i := 38) rfl)) (hw _ (List.mem_of_getElem? (i := 31) rfl)) (by decide) (by decide)) (by decide) (by decide) ?_
  intro T hT X
  show Go p e below _ (T.setTop (mkF m 48 #[.val (.ref x), .val (.ref b), .val (.int (0 : Int32)), .val (.int (Int32.ofNat cs.length)), .val .null, .val (.ref r)] [(.int cd), (.ref x)]))
  obtain ⟨T, h2, X, hT, Wr0, st⟩ := putF X hx hZ hown (host := "") (Or.inl (hw _ (List.mem_of_getElem? (i := 27) rfl))) Via.refl hT F_x_coder A_x (Or.inr ⟨(hw _ (List.mem_of_getElem? (i := 23) rfl)), rfl, hnm⟩) (hw _ (List.mem_of_getElem? (i := 7) rfl)) (ty := .byte) (by decide) (own_ncd hcd) (own_fcd hcd) (g := (mkF m 48 #[.val (.ref x), .val (.ref b), .val (.int (0 : Int32)), .val (.int (Int32.ofNat cs.length)), .val .null, .val (.ref r)] [(.int cd), (.ref x)])) rfl rfl (hb hby d3_48)
  refine Go.st st ?_
  have N := Fr.snoc X N ge_x
  have A_x := A_x.wr Wr0
  have F_x_value := F_x_value.other Wr0 (Or.inr (slot_ne (C := "java/lang/String") (Or.inr (hw _ (List.mem_of_getElem? (i := 22) rfl))) (Or.inr (hw _ (List.mem_of_getElem? (i := 23) rfl))) (by decide) (t := (.array .byte)) (by decide) (t' := .byte) (by decide)))
  have F_x_coder := F_x_coder.same Wr0
  have V_r := V_r.other Wr0 ne_x_r.symm
  have KB := (KB).wr Wr0 (Or.inl (List.mem_of_getElem? (i := 0) rfl))
  show Go p e below _ (T.setTop (mkF m 51 #[.val (.ref x), .val (.ref b), .val (.int (0 : Int32)), .val (.int (Int32.ofNat cs.length)), .val .null, .val (.ref r)] []))
  refine Go.st (fun _ k => XS.aloadN X.here hx rfl (hb hby d3_51) rfl rfl k) ?_
  show Go p e below _ (T.setTop (mkF m 52 #[.val (.ref x), .val (.ref b), .val (.int (0 : Int32)), .val (.int (Int32.ofNat cs.length)), .val .null, .val (.ref r)] [(.ref x)]))
  refine Go.st (fun _ k => XS.aload X.here hx rfl (hb hby d3_52) rfl rfl k) ?_
  show Go p e below _ (T.setTop (mkF m 54 #[.val (.ref x), .val (.ref b), .val (.int (0 : Int32)), .val (.int (Int32.ofNat cs.length)), .val .null, .val (.ref r)] [(.ref r), (.ref x)]))
  obtain ⟨T, h3, X, hT, Wr0, st⟩ := putF X hx hZ hown (host := "") (Or.inl (hw _ (List.mem_of_getElem? (i := 26) rfl))) Via.refl hT F_x_value A_x (Or.inr ⟨(hw _ (List.mem_of_getElem? (i := 22) rfl)), rfl, hnm⟩) (hw _ (List.mem_of_getElem? (i := 7) rfl)) (ty := (.array .byte)) (by decide) rfl rfl (g := (mkF m 54 #[.val (.ref x), .val (.ref b), .val (.int (0 : Int32)), .val (.int (Int32.ofNat cs.length)), .val .null, .val (.ref r)] [(.ref r), (.ref x)])) rfl rfl (hb hby d3_54)
  refine Go.st st ?_
  have N := Fr.snoc X N ge_x
  have A_x := A_x.wr Wr0
  have F_x_value := F_x_value.same Wr0
  have F_x_coder := F_x_coder.other Wr0 (Or.inr (slot_ne (C := "java/lang/String") (Or.inr (hw _ (List.mem_of_getElem? (i := 23) rfl))) (Or.inr (hw _ (List.mem_of_getElem? (i := 22) rfl))) (by decide) (t := .byte) (by decide) (t' := (.array .byte)) (by decide)))
  have V_r := V_r.other Wr0 ne_x_r.symm
  have KB := (KB).wr Wr0 (Or.inl (List.mem_of_getElem? (i := 0) rfl))
  show Go p e below _ (T.setTop (mkF m 57 #[.val (.ref x), .val (.ref b), .val (.int (0 : Int32)), .val (.int (Int32.ofNat cs.length)), .val .null, .val (.ref r)] []))
  refine Go.retV X hx hlk hT hret (hb hby d3_57) (by decide) (by decide) ?_
  exact ⟨rfl, N, KB, r, kr, cd, N2, vs, A_x, F_x_value, F_x_coder, V_r, hcod, hp, by omega⟩
set_option maxRecDepth 65536 in
set_option maxHeartbeats 40000000 in
theorem met_new1n (l : Launch) (Z : State) (a0 : Array Value) (hw : ∀ d ∈ tables_1, d.before a0 Z = true) (ws : List Jvm.Cond) (n0 : Nat) (x b : Addr) (kC : ClassId) (cs : List Int32) (z : Int32) (h0 : Heap) (O : Old Z n0 h0) (ge_x : n0 ≤ x) (A_x : Exa Z h0 x ST) (F_x_value : Fld Z h0 x ST "value" "[B" .null) (F_x_coder : Fld Z h0 x ST "coder" "B" (.int (0 : Int32))) (Sc : Stat Z z) (S16 : St16 Z) (V_b : Arv Z h0 b kC .char (Int32.ofNat cs.length) (cs.map Value.int) (.int 0)) (hpos : 0 < cs.length) (hn : cs.length ≤ 2) (hp : ∀ c ∈ cs, ¬ c < 0 ∧ ¬ (65535 : Int32) < c) :
    MetFree l (⟨"java/lang/String", "<init>", "([C)V"⟩ : MethodName) (head1 (Jvm.Cond.code (⟨"java/lang/String", "<init>", "([C)V"⟩ : MethodName) jdk_42_method_3_code 2 none :: ws) ({ frames := 5, cells := 2, slots := 6, locals := 74 } : Room)) (fun aa U => aa = #[(.ref x), (.ref b)] ∧ Z.Warmed39 U.vm ∧ U.heap = h0) (fun _ _ _ _ _ => True) (fun _ U o U' => ∃ v L, o = .returned v ∧ QS Z x cs n0 h0 v U'.heap L ∧ FrameEnd U o U' L ({ frames := 5, cells := 2, slots := 6, locals := 74 } : Room).cells ({ frames := 5, cells := 2, slots := 6, locals := 74 } : Room).slots) := by
  refine openP (y := (⟨"java/lang/String", "<init>", "([C)V"⟩ : MethodName)) pn_1 ?_
  intro p e s m below meth c T hx hby hml hret hlk hnm hZ hown X hT
  refine Go.st (fun _ k => castTop (ef_AA_2 m x b) k) ?_
  show Go p e below _ (T.setTop (mkF m 0 #[.val (.ref x), .val (.ref b)] []))
  refine Go.st (fun _ k => XS.aloadN X.here hx rfl (hb hby d2_0) rfl rfl k) ?_
  show Go p e below _ (T.setTop (mkF m 1 #[.val (.ref x), .val (.ref b)] [(.ref x)]))
  refine Go.st (fun _ k => XS.aloadN X.here hx rfl (hb hby d2_1) rfl rfl k) ?_
  show Go p e below _ (T.setTop (mkF m 2 #[.val (.ref x), .val (.ref b)] [(.ref b), (.ref x)]))
  refine Go.st (fun _ k => XS.iconst X.here hx rfl (hb hby d2_2) k) ?_
  show Go p e below _ (T.setTop (mkF m 3 #[.val (.ref x), .val (.ref b)] [(.int (0 : Int32)), (.ref b), (.ref x)]))
  refine Go.st (fun _ k => XS.aloadN X.here hx rfl (hb hby d2_3) rfl rfl k) ?_
  show Go p e below _ (T.setTop (mkF m 4 #[.val (.ref x), .val (.ref b)] [(.ref b), (.int (0 : Int32)), (.ref b), (.ref x)]))
  obtain ⟨cl0, Ar0, q0, S0, M0, H0, U0⟩ := id V_b
  refine Go.st (fun _ k => X.arraylength hx (by rw [hT]; exact Ar0.1) (State.isArrayOf_alike hZ.alike Ar0.2.1) (g := (mkF m 4 #[.val (.ref x), .val (.ref b)] [(.ref b), (.int (0 : Int32)), (.ref b), (.ref x)])) rfl rfl (hb hby d2_4) _ k) ?_
  rw [len_of S0 M0]
  show Go p e below _ (T.setTop (mkF m 5 #[.val (.ref x), .val (.ref b)] [(.int (Int32.ofNat cs.length)), (.int (0 : Int32)), (.ref b), (.ref x)]))
  refine Go.st (fun _ k => XS.aconstNull X.here hx rfl (hb hby d2_5) k) ?_
  show Go p e below _ (T.setTop (mkF m 6 #[.val (.ref x), .val (.ref b)] [.null, (.int (Int32.ofNat cs.length)), (.int (0 : Int32)), (.ref b), (.ref x)]))
  refine Go.specP (argsL := [(.ref b), (.int (0 : Int32)), (.int (Int32.ofNat cs.length)), .null]) (rest := []) (W := 0) (ck := 2) (sk := 6) X hx hZ hown (hml.trans rfl) hT rfl (hw _ (List.mem_of_getElem? (i := 13) rfl)) (hw _ (List.mem_of_getElem? (i := 14) rfl)) (hw _ (List.mem_of_getElem? (i := 16) rfl)) (by decide) pd_0 rfl rfl (Nat.le_of_ble_eq_true rfl) (hb hby d2_6) (backOf (W := 0) (met_new4n l Z a0 hw [] n0 x b kC cs z _ O ge_x A_x F_x_value F_x_coder Sc S16 V_b hpos hn hp) hZ (hw _ (List.mem_of_getElem? (i := 16) rfl)) (hw _ (List.mem_of_getElem? (i := 8) rfl)) (by decide) (by decide)) (by decide) (by decide) ?_
  intro v T h1 L hT hQ X
  obtain ⟨rfl, N, KB, S⟩ := hQ
  show Go p e below _ (T.setTop (mkF m 9 #[.val (.ref x), .val (.ref b)] []))
  refine Go.retV X hx hlk hT hret (hb hby d2_9) (by decide) (by decide) ?_
  exact ⟨rfl, N, KB, S⟩
theorem pd_8 : parseMethodDescriptor "([C)V" = some ⟨[(.array .char)], none⟩ := by decide +kernel
set_option maxHeartbeats 4000000 in
theorem Go.newS {p : Program} {l : Launch} {e : Env} {R : Room} {s : State} {m : MethodId} {args : Array Value} {below : List Frame} {meth : Method} {c : Code} {T : State} {locs : List Loc} {cells slots : Nat} {Φ : Outcome → State → Prop} {Z : State} {a0 : Array Value} {h : Heap} {vm : Vm} {own : String} {index W pc n0 : Nat} {Ls : Array Slot} {rest : List Value} {x b : Addr} {kC : ClassId} {cs : List Int32} {N z : Int32}
    (hw : ∀ d ∈ tables_1, d.before a0 Z = true) (H : HW Z EL0 s vm h) (X : Stand p l e R (s.setVm vm) m args below meth c T locs cells slots) (hx : p.tables.exec = Jvm.exec) (hZ : Z.Warmed39 vm) (hown : vm.findClass own = some m.cls) (hml : c.maxLocals = Ls.size) (hT : T.heap = h)
    (w1 : (Cond.methodLink own index (⟨"java/lang/String", "<init>", "([C)V"⟩ : MethodName)).before a0 Z = true) (hd : decode c.code pc = .ok (.invokespecial index, 3))
    (O : Old Z n0 h) (ge_x : n0 ≤ x) (Sc : Stat Z z) (S16 : St16 Z) (E : Exa Z h x ST) (V : Fld Z h x ST "value" "[B" .null) (C : Fld Z h x ST "coder" "B" (.int (0 : Int32))) (K : Arv Z h b kC .char N (cs.map Value.int) (.int (0 : Int32))) (hN : N = Int32.ofNat cs.length) (hn : cs.length ≤ 2)
    (hp : ∀ c ∈ cs, ¬ c < 0 ∧ ¬ (65535 : Int32) < c) (hW : (rest.map fun v => v.category).sum ≤ W) (hfr : 6 ≤ R.frames) (hlo : W + 87 ≤ R.locals) (hc : cells + 4 ≤ R.cells) (hs : slots + 8 ≤ R.slots)
    (k : ∀ (T' : State) (h' : Heap) (L : List Loc) (vm' : Vm), T'.heap = h' → Fr n0 L → Keep h h' [x] → Str Z h' x cs → Z.Warmed39 vm' → vm'.findClass own = some m.cls → HW Z EL0 s vm' h' → Stand p l e R (s.setVm vm') m args below meth c T' (locs ++ L) (cells + 4) (slots + 8) → Go p e below Φ (T'.setTop (mkF m (pc + 3) Ls rest))) :
    Go p e below Φ (T.setTop (mkF m pc Ls (.ref b :: .ref x :: rest))) := by
  have hEL : EW Z a0 EL0 := own_EW hw
  subst hN
  by_cases hpos : 0 < cs.length
  · refine Go.specP (argsL := [.ref b]) (rest := rest) (W := W) (ck := 2) (sk := 6) X hx hZ hown hml hT rfl w1 (hw _ (List.mem_of_getElem? (i := 11) rfl)) (hw _ (List.mem_of_getElem? (i := 12) rfl)) (by decide) pd_8 rfl rfl hW hd (backOf (W := W) (met_new1n l Z a0 hw [] n0 x b kC cs z _ O ge_x E V C Sc S16 K hpos hn hp) hZ (hw _ (List.mem_of_getElem? (i := 12) rfl)) (hw _ (List.mem_of_getElem? (i := 8) rfl)) (by show 5 + 1 ≤ _; omega) (by show W + (2 + 11) + 74 ≤ _; omega)) (by omega) (by omega) ?_
    intro v T' h' L hT' hQ X'
    obtain ⟨rfl, N', K', S'⟩ := hQ
    have Sf : Safe Z EL0 vm h x := Safe.blank hZ.alike E V
    exact k T' h' L vm hT' N' K' S' hZ hown (H.keep K' (sfS Sf sf0)) (X'.mono (by omega) (by omega))
  · obtain rfl : cs = [] := List.eq_nil_of_length_eq_zero (by omega)
    refine Go.specH (argsL := [.ref b]) (rest := rest) (W := W) (ck := 4) (sk := 8) H X hx hZ hown hml hT rfl w1 (hw _ (List.mem_of_getElem? (i := 11) rfl)) (hw _ (List.mem_of_getElem? (i := 12) rfl)) (by decide) pd_8 rfl rfl hW hd (backOfSH (W := W) (met_new1e l Z a0 hw [] n0 x b kC _ O ge_x E V C K) hZ (hw _ (List.mem_of_getElem? (i := 12) rfl)) (hw _ (List.mem_of_getElem? (i := 8) rfl)) (by show 2 + 1 ≤ _; omega) (by show W + (2 + 11) + 29 ≤ _; omega) hEL H.2.1) (by omega) (by omega) ?_
    intro v T' h' L vm' hT' hQ hZ' hown' H' Rc X'
    obtain ⟨rfl, N', K', S'⟩ := hQ
    exact k T' h' L vm' hT' N' K' S' hZ' hown' H' (X'.mono (by omega) (by omega))
def QStr (Z : State) (n0 : Nat) (cs : List Int32) (h0 : Heap) (v : Option Value) (h : Heap) (L : List Loc) : Prop := ∃ r, v = some (.ref r) ∧ Fr n0 L ∧ Ext h0 h ∧ Str Z h r cs
theorem own_wordsEq : ∀ d ∈ StrChars.Road.wordsEq, d ∈ tables_1 := by decide +kernel
theorem own_eq {p : Program} {l : Launch} {e : Env} {R : Room} {s : State} {args : Array Value} {below : List Frame} {Z : State} {a0 : Array Value} {h : Heap} {W : Nat} {x y : Addr} {cs ds : List Int32} {z : Int32} {n0 : Nat} (hw : ∀ d ∈ tables_1, d.before a0 Z = true) (hZ : Z.Warmed39 s.vm) (O : Old Z n0 h) (Sc : Stat Z z) (S : Str Z h x cs) (S' : Str Z h y ds) (hfr : 2 ≤ R.frames) (hlo : W + 28 ≤ R.locals) :
    PB l R p e below s args (⟨"java/lang/String", "equals", "(Ljava/lang/Object;)Z"⟩ : MethodName) W #[.ref x, .ref y] h 0 0 (QV (.int (if cs = ds then 1 else 0)) h) := by
  obtain ⟨t, kb, cd, N2, vs, h1, h2, h3, h4, h5, h6, h7⟩ := S
  obtain ⟨t', kb', cd', N2', vs', g1, g2, g3, g4, g5, g6, g7⟩ := S'
  refine Back.mono (StrChars.Road.eqW hZ (fun d hd => hw d (own_wordsEq d hd)) (kI := 4) (hw _ (List.mem_of_getElem? (i := 7) rfl)) h1 h2 h3 h4 h5 h6 h7 g1 g2 g3 g4 g5 g6 g7 (Sc.1.ext O.2) Sc.2 hfr hlo) (fun _ _ q => q) ?_
  rintro P a v B hp ⟨L, ⟨hv, rfl, hh⟩, q⟩
  refine ⟨[], ⟨?_, rfl, hh⟩, q⟩
  rcases hv with ⟨rfl, e⟩ | ⟨rfl, e⟩
  · rw [if_pos e]
  · rw [if_neg e]
abbrev cc (y : Int32) : Int32 := y.toUInt32.toUInt16.toUInt32.toInt32
theorem own_ccr (y : Int32) : ¬ cc y < 0 ∧ ¬ (65535 : Int32) < cc y := by
  have h2 : ((cc y).toInt - y.toInt) % 65536 = 0 ∧ 0 ≤ (cc y).toInt ∧ (cc y).toInt < 65536 := c_i2c y
  have e1 : (65535 : Int32).toInt = 65535 := by decide
  constructor
  · rw [Int32.lt_iff_toInt_lt]; show ¬ _ < (0 : Int); omega
  · rw [Int32.lt_iff_toInt_lt, e1]; omega
theorem own_all {cs : List Int32} (h : ∃ ys : List Int32, cs = ys.map cc) : ∀ c ∈ cs, ¬ c < 0 ∧ ¬ (65535 : Int32) < c := by
  obtain ⟨ys, rfl⟩ := h
  intro c hc
  obtain ⟨y, -, rfl⟩ := List.mem_map.mp hc
  exact own_ccr y
def strL (n c0 c1 : Int32) : List Int32 := if n = (0 : Int32) then [] else if n = (1 : Int32) then [cc c0] else [cc c0, cc c1]
theorem d1_0 : decode method_2_code 0 = .ok (.iload_n 0, 1) := by decide +kernel
theorem d1_1 : decode method_2_code 1 = .ok (.ifCond .ne 14, 3) := by decide +kernel
theorem d1_4 : decode method_2_code 4 = .ok (.new 7, 3) := by decide +kernel
theorem d1_7 : decode method_2_code 7 = .ok (.dup, 1) := by decide +kernel
theorem d1_8 : decode method_2_code 8 = .ok (.iconst 0, 1) := by decide +kernel
theorem d1_9 : decode method_2_code 9 = .ok (.newarray .char, 2) := by decide +kernel
theorem d1_11 : decode method_2_code 11 = .ok (.invokespecial 9, 3) := by decide +kernel
theorem d1_14 : decode method_2_code 14 = .ok (.areturn, 1) := by decide +kernel
theorem d1_15 : decode method_2_code 15 = .ok (.iload_n 0, 1) := by decide +kernel
theorem d1_16 : decode method_2_code 16 = .ok (.iconst 1, 1) := by decide +kernel
theorem d1_17 : decode method_2_code 17 = .ok (.if_icmp .ne 21, 3) := by decide +kernel
theorem d1_20 : decode method_2_code 20 = .ok (.iconst 1, 1) := by decide +kernel
theorem d1_21 : decode method_2_code 21 = .ok (.newarray .char, 2) := by decide +kernel
theorem d1_23 : decode method_2_code 23 = .ok (.astore_n 3, 1) := by decide +kernel
theorem d1_24 : decode method_2_code 24 = .ok (.aload_n 3, 1) := by decide +kernel
theorem d1_25 : decode method_2_code 25 = .ok (.iconst 0, 1) := by decide +kernel
theorem d1_26 : decode method_2_code 26 = .ok (.iload_n 1, 1) := by decide +kernel
theorem d1_27 : decode method_2_code 27 = .ok (.i2c, 1) := by decide +kernel
theorem d1_28 : decode method_2_code 28 = .ok (.castore, 1) := by decide +kernel
theorem d1_29 : decode method_2_code 29 = .ok (.new 7, 3) := by decide +kernel
theorem d1_32 : decode method_2_code 32 = .ok (.dup, 1) := by decide +kernel
theorem d1_33 : decode method_2_code 33 = .ok (.aload_n 3, 1) := by decide +kernel
theorem d1_34 : decode method_2_code 34 = .ok (.invokespecial 9, 3) := by decide +kernel
theorem d1_37 : decode method_2_code 37 = .ok (.areturn, 1) := by decide +kernel
theorem d1_38 : decode method_2_code 38 = .ok (.iconst 2, 1) := by decide +kernel
theorem d1_39 : decode method_2_code 39 = .ok (.newarray .char, 2) := by decide +kernel
theorem d1_41 : decode method_2_code 41 = .ok (.astore_n 3, 1) := by decide +kernel
theorem d1_42 : decode method_2_code 42 = .ok (.aload_n 3, 1) := by decide +kernel
theorem d1_43 : decode method_2_code 43 = .ok (.iconst 0, 1) := by decide +kernel
theorem d1_44 : decode method_2_code 44 = .ok (.iload_n 1, 1) := by decide +kernel
theorem d1_45 : decode method_2_code 45 = .ok (.i2c, 1) := by decide +kernel
theorem d1_46 : decode method_2_code 46 = .ok (.castore, 1) := by decide +kernel
theorem d1_47 : decode method_2_code 47 = .ok (.aload_n 3, 1) := by decide +kernel
theorem d1_48 : decode method_2_code 48 = .ok (.iconst 1, 1) := by decide +kernel
theorem d1_49 : decode method_2_code 49 = .ok (.iload_n 2, 1) := by decide +kernel
theorem d1_50 : decode method_2_code 50 = .ok (.i2c, 1) := by decide +kernel
theorem d1_51 : decode method_2_code 51 = .ok (.castore, 1) := by decide +kernel
theorem d1_52 : decode method_2_code 52 = .ok (.new 7, 3) := by decide +kernel
theorem d1_55 : decode method_2_code 55 = .ok (.dup, 1) := by decide +kernel
theorem d1_56 : decode method_2_code 56 = .ok (.aload_n 3, 1) := by decide +kernel
theorem d1_57 : decode method_2_code 57 = .ok (.invokespecial 9, 3) := by decide +kernel
theorem d1_60 : decode method_2_code 60 = .ok (.areturn, 1) := by decide +kernel
theorem pn_10 : plainFor (⟨"com/example/orgweave/orgweave/core/JsonValueEqualsPinLaw", "str", "(III)Ljava/lang/String;"⟩ : MethodName) = true := by first | exact plainFor_of_name (by first | (simp [plainName, overriddenIn]; done) | decide +kernel) | decide +kernel
theorem ef_III_4 (m : MethodId) (y0 : Int32) (y1 : Int32) (y2 : Int32) : entryFrame m #[(.int y0), (.int y1), (.int y2)] 4 = mkF m 0 #[.val (.int y0), .val (.int y1), .val (.int y2), .unset] [] := by first | (simp [entryFrame, mkF, argsToLocals, Value.category]; done) | rfl
set_option maxRecDepth 65536 in
set_option maxHeartbeats 40000000 in
theorem met_str (l : Launch) (Z : State) (a0 : Array Value) (hw : ∀ d ∈ tables_1, d.before a0 Z = true) (ws : List Jvm.Cond) (n c0 c1 z : Int32) (n0 : Nat) (h0 : Heap) (O : Old Z n0 h0) (Sc : Stat Z z) (S16 : St16 Z) :
    MetFree l (⟨"com/example/orgweave/orgweave/core/JsonValueEqualsPinLaw", "str", "(III)Ljava/lang/String;"⟩ : MethodName) (head1 (Jvm.Cond.code (⟨"com/example/orgweave/orgweave/core/JsonValueEqualsPinLaw", "str", "(III)Ljava/lang/String;"⟩ : MethodName) method_2_code 4 (some (.object "java/lang/String")) :: ws) ({ frames := 6, cells := 6, slots := 14, locals := 88 } : Room)) (fun aa U => aa = #[(.int n), (.int c0), (.int c1)] ∧ Z.Warmed39 U.vm ∧ U.heap = h0 ∧ CHv Z EL0 U.vm h0) (fun _ _ _ _ _ => True) (fun _ U o U' => ∃ v L, o = .returned v ∧ QStr Z n0 (strL n c0 c1) h0 v U'.heap L ∧ CHr Z EL0 U.vm U.heap U'.vm U'.heap ∧ ReturnedEndW U o U' L ({ frames := 6, cells := 6, slots := 14, locals := 88 } : Room).cells ({ frames := 6, cells := 6, slots := 14, locals := 88 } : Room).slots) := by
  refine openH (y := (⟨"com/example/orgweave/orgweave/core/JsonValueEqualsPinLaw", "str", "(III)Ljava/lang/String;"⟩ : MethodName)) pn_10 ?_
  intro p e s m below meth c T vm hx hby hml hret hlk hnm hZ hown X hT H
  have hEL := own_EW hw
  refine Go.st (fun _ k => castTop (ef_III_4 m n c0 c1) k) ?_
  show Go p e below _ (T.setTop (mkF m 0 #[.val (.int n), .val (.int c0), .val (.int c1), .unset] []))
  have N := Fr.nil n0
  have K0b : Keep h0 h0 [] := Keep.refl _ _
  refine Go.st (fun _ k => XS.iloadN X.here hx rfl (hb hby d1_0) rfl k) ?_
  show Go p e below _ (T.setTop (mkF m 1 #[.val (.int n), .val (.int c0), .val (.int c1), .unset] [(.int n)]))
  by_cases hc1 : n = (0 : Int32)
  · refine Go.st (fun _ k => XS.ifNo X.here hx rfl (hb hby d1_1) rfl (Jvm.Free.XT.i0_ne_f hc1) k) ?_
    show Go p e below _ (T.setTop (mkF m 4 #[.val (.int n), .val (.int c0), .val (.int c1), .unset] []))
    obtain ⟨T, h1, X, hT, Ex0, A_o2, D_o2, -, st⟩ := newO X hx hZ hown (hw _ (List.mem_of_getElem? (i := 6) rfl)) (hw _ (List.mem_of_getElem? (i := 7) rfl)) (hw _ (List.mem_of_getElem? (i := 8) rfl)) hT (g := (mkF m 4 #[.val (.int n), .val (.int c0), .val (.int c1), .unset] [])) rfl (hb hby d1_4) (by decide) (by decide)
    obtain ⟨o2, g_o2⟩ : ∃ z, z = h0.size := ⟨_, rfl⟩
    rw [← g_o2] at A_o2 D_o2 st
    refine Go.st st ?_
    have ge_o2 : n0 ≤ o2 := Nat.le_trans (own_le (O)) (Nat.le_of_eq g_o2.symm)
    have gk_o2 : h0.size ≤ o2 := Nat.le_trans (Keep.refl h0 []).1 (Nat.le_of_eq g_o2.symm)
    have Sf_o2 := Safe.ext Ex0 H.2.1 (Safe.new (Nat.le_of_eq g_o2.symm))
    have H := H.ext Ex0
    have KB := (Keep.refl h0 []).ext Ex0
    have F_o2_value := D_o2 (Or.inr (hw _ (List.mem_of_getElem? (i := 22) rfl))) (ty := (.array .byte)) (by decide)
    have F_o2_coder := D_o2 (Or.inr (hw _ (List.mem_of_getElem? (i := 23) rfl))) (ty := .byte) (by decide)
    show Go p e below _ (T.setTop (mkF m 7 #[.val (.int n), .val (.int c0), .val (.int c1), .unset] [(.ref o2)]))
    refine Go.st (fun _ k => XS.dup X.here hx rfl (hb hby d1_7) rfl rfl k) ?_
    show Go p e below _ (T.setTop (mkF m 8 #[.val (.int n), .val (.int c0), .val (.int c1), .unset] [(.ref o2), (.ref o2)]))
    refine Go.st (fun _ k => XS.iconst X.here hx rfl (hb hby d1_8) k) ?_
    show Go p e below _ (T.setTop (mkF m 9 #[.val (.int n), .val (.int c0), .val (.int c1), .unset] [(.int (0 : Int32)), (.ref o2), (.ref o2)]))
    obtain ⟨T, h2, k_o3, X, hT, Ex0, A_o3, st⟩ := newP X hx hZ (hw _ (List.mem_of_getElem? (i := 9) rfl)) hT (g := (mkF m 9 #[.val (.int n), .val (.int c0), .val (.int c1), .unset] [(.int (0 : Int32)), (.ref o2), (.ref o2)])) rfl (hb hby d1_9) rfl (by decide : ¬ ((0 : Int32) < (0 : Int32))) (cap := 0) (by decide) (by decide) (by decide) (by decide)
    obtain ⟨o3, g_o3⟩ : ∃ z, z = h1.size := ⟨_, rfl⟩
    rw [← g_o3] at A_o3 st
    refine Go.st st ?_
    have ge_o3 : n0 ≤ o3 := Nat.le_trans (own_le (O.keep KB all0)) (Nat.le_of_eq g_o3.symm)
    have gk_o3 : h0.size ≤ o3 := Nat.le_trans (KB).1 (Nat.le_of_eq g_o3.symm)
    have H := H.ext Ex0
    have A_o2 := A_o2.ext Ex0
    have F_o2_value := F_o2_value.ext Ex0
    have F_o2_coder := F_o2_coder.ext Ex0
    have KB := (KB).ext Ex0
    have V_o3 : Arv Z _ o3 k_o3 .char (0 : Int32) [] (.int (0 : Int32)) := (Arv.new A_o3 (by decide)).pad (pad_rep [] (.int (0 : Int32)) 0)
    have ne_o2_o3 : o2 ≠ o3 := Exa.neArv A_o2 V_o3 (hw _ (List.mem_of_getElem? (i := 7) rfl))
    show Go p e below _ (T.setTop (mkF m 11 #[.val (.int n), .val (.int c0), .val (.int c1), .unset] [(.ref o3), (.ref o2), (.ref o2)]))
    refine Go.newS (W := 1) (rest := [(.ref o2)]) (cs := []) hw H X hx hZ hown (hml.trans rfl) hT (hw _ (List.mem_of_getElem? (i := 10) rfl)) (hb hby d1_11) (O.keep KB all0) ge_o2 Sc S16 A_o2 F_o2_value F_o2_coder (by have q := V_o3; (try simp only [own_nar] at q); exact q) rfl (Nat.le_of_ble_eq_true rfl) (own_all ⟨[], rfl⟩) (Nat.le_of_ble_eq_true rfl) (by decide) (by decide) (by decide) (by decide) ?_
    intro T h3 L vm hT N0 K0 S_o2 hZ hown H X
    have N := Fr.app N N0
    have KB := (KB).trans K0 (allS (Or.inr gk_o2) all0)
    have O := O.keep KB all0
    have K0b := K0b.trans KB (fun _ q => nomatch q)
    show Go p e below _ (T.setTop (mkF m 14 #[.val (.int n), .val (.int c0), .val (.int c1), .unset] [(.ref o2)]))
    refine Go.retH hEL H hZ X hx hlk hT hret rfl (riA rfl rfl) (hb hby d1_14) (by decide) (by decide) ?_
    refine ⟨_, rfl, N, keepE K0b, ?_⟩
    rw [strL, if_pos hc1]
    exact S_o2
  · refine Go.st (fun _ k => XS.ifYes X.here hx rfl (pc0 := 1) (pc' := 15) rfl (hb hby d1_1) rfl (Jvm.Free.XT.i0_ne_t hc1) (by decide) (by decide) k) ?_
    show Go p e below _ (T.setTop (mkF m 15 #[.val (.int n), .val (.int c0), .val (.int c1), .unset] []))
    refine Go.st (fun _ k => XS.iloadN X.here hx rfl (hb hby d1_15) rfl k) ?_
    show Go p e below _ (T.setTop (mkF m 16 #[.val (.int n), .val (.int c0), .val (.int c1), .unset] [(.int n)]))
    refine Go.st (fun _ k => XS.iconst X.here hx rfl (hb hby d1_16) k) ?_
    show Go p e below _ (T.setTop (mkF m 17 #[.val (.int n), .val (.int c0), .val (.int c1), .unset] [(.int (1 : Int32)), (.int n)]))
    by_cases hc4 : n = (1 : Int32)
    · refine Go.st (fun _ k => XS.icmpNo X.here hx rfl (hb hby d1_17) rfl (Jvm.Free.XT.ii_ne_f hc4) k) ?_
      show Go p e below _ (T.setTop (mkF m 20 #[.val (.int n), .val (.int c0), .val (.int c1), .unset] []))
      refine Go.st (fun _ k => XS.iconst X.here hx rfl (hb hby d1_20) k) ?_
      show Go p e below _ (T.setTop (mkF m 21 #[.val (.int n), .val (.int c0), .val (.int c1), .unset] [(.int (1 : Int32))]))
      obtain ⟨T, h4, k_o5, X, hT, Ex0, A_o5, st⟩ := newP X hx hZ (hw _ (List.mem_of_getElem? (i := 9) rfl)) hT (g := (mkF m 21 #[.val (.int n), .val (.int c0), .val (.int c1), .unset] [(.int (1 : Int32))])) rfl (hb hby d1_21) rfl (by decide : ¬ ((1 : Int32) < (0 : Int32))) (cap := 1) (by decide) (by decide) (by decide) (by decide)
      obtain ⟨o5, g_o5⟩ : ∃ z, z = h0.size := ⟨_, rfl⟩
      rw [← g_o5] at A_o5 st
      refine Go.st st ?_
      have ge_o5 : n0 ≤ o5 := Nat.le_trans (own_le (O)) (Nat.le_of_eq g_o5.symm)
      have gk_o5 : h0.size ≤ o5 := Nat.le_trans (Keep.refl h0 []).1 (Nat.le_of_eq g_o5.symm)
      have H := H.ext Ex0
      have KB := (Keep.refl h0 []).ext Ex0
      have V_o5 : Arv Z _ o5 k_o5 .char (1 : Int32) [(.int (0 : Int32))] (.int (0 : Int32)) := (Arv.new A_o5 (by decide)).pad (pad_rep [] (.int (0 : Int32)) 1)
      show Go p e below _ (T.setTop (mkF m 23 #[.val (.int n), .val (.int c0), .val (.int c1), .unset] [(.ref o5)]))
      refine Go.st (fun _ k => XS.astoreN X.here hx rfl (hb hby d1_23) rfl rfl (l' := #[.val (.int n), .val (.int c0), .val (.int c1), .val (.ref o5)]) rfl k) ?_
      show Go p e below _ (T.setTop (mkF m 24 #[.val (.int n), .val (.int c0), .val (.int c1), .val (.ref o5)] []))
      refine Go.st (fun _ k => XS.aloadN X.here hx rfl (hb hby d1_24) rfl rfl k) ?_
      show Go p e below _ (T.setTop (mkF m 25 #[.val (.int n), .val (.int c0), .val (.int c1), .val (.ref o5)] [(.ref o5)]))
      refine Go.st (fun _ k => XS.iconst X.here hx rfl (hb hby d1_25) k) ?_
      show Go p e below _ (T.setTop (mkF m 26 #[.val (.int n), .val (.int c0), .val (.int c1), .val (.ref o5)] [(.int (0 : Int32)), (.ref o5)]))
      refine Go.st (fun _ k => XS.iloadN X.here hx rfl (hb hby d1_26) rfl k) ?_
      show Go p e below _ (T.setTop (mkF m 27 #[.val (.int n), .val (.int c0), .val (.int c1), .val (.ref o5)] [(.int c0), (.int (0 : Int32)), (.ref o5)]))
      refine Go.st (fun _ k => XS.i2c X.here hx rfl (hb hby d1_27) rfl k) ?_
      show Go p e below _ (T.setTop (mkF m 28 #[.val (.int n), .val (.int c0), .val (.int c1), .val (.ref o5)] [(.int (c0.toUInt32.toUInt16.toUInt32.toInt32)), (.int (0 : Int32)), (.ref o5)]))
      obtain ⟨cl0, Ar0, q0, S0, M0, H0, U0⟩ := id V_o5
      obtain ⟨T, h5, X, hT, Wr0, st⟩ := stC X hx hZ hT Ar0 (j := (0 : Int32)) (inb_of S0 ⟨(by decide : ¬ ((0 : Int32) < (0 : Int32))), (by decide : (0 : Int32) < (1 : Int32))⟩) (g := (mkF m 28 #[.val (.int n), .val (.int c0), .val (.int c1), .val (.ref o5)] [(.int (c0.toUInt32.toUInt16.toUInt32.toInt32)), (.int (0 : Int32)), (.ref o5)])) rfl rfl (hb hby d1_28)
      refine Go.st st ?_
      have N := Fr.snoc X N ge_o5
      have H := H.wr Wr0 (Safe.arr hZ.alike Ar0 (by decide))
      have KB := (KB).wr Wr0 (Or.inr gk_o5)
      have V_o5 : Arv Z _ o5 k_o5 .char (1 : Int32) [(.int (nar .char (c0.toUInt32.toUInt16.toUInt32.toInt32)))] (.int (0 : Int32)) := Arv.set Ar0 q0 S0 M0 H0 U0 (fits_nar_char _) Wr0 0 rfl (Nat.le_of_ble_eq_true rfl)
      show Go p e below _ (T.setTop (mkF m 29 #[.val (.int n), .val (.int c0), .val (.int c1), .val (.ref o5)] []))
      obtain ⟨T, h6, X, hT, Ex0, A_o6, D_o6, -, st⟩ := newO X hx hZ hown (hw _ (List.mem_of_getElem? (i := 6) rfl)) (hw _ (List.mem_of_getElem? (i := 7) rfl)) (hw _ (List.mem_of_getElem? (i := 8) rfl)) hT (g := (mkF m 29 #[.val (.int n), .val (.int c0), .val (.int c1), .val (.ref o5)] [])) rfl (hb hby d1_29) (by decide) (by decide)
      obtain ⟨o6, g_o6⟩ : ∃ z, z = h5.size := ⟨_, rfl⟩
      rw [← g_o6] at A_o6 D_o6 st
      refine Go.st st ?_
      have ge_o6 : n0 ≤ o6 := Nat.le_trans (own_le (O.keep KB all0)) (Nat.le_of_eq g_o6.symm)
      have gk_o6 : h0.size ≤ o6 := Nat.le_trans (KB).1 (Nat.le_of_eq g_o6.symm)
      have Sf_o6 := Safe.ext Ex0 H.2.1 (Safe.new (Nat.le_of_eq g_o6.symm))
      have H := H.ext Ex0
      have V_o5 := V_o5.ext Ex0
      have KB := (KB).ext Ex0
      have F_o6_value := D_o6 (Or.inr (hw _ (List.mem_of_getElem? (i := 22) rfl))) (ty := (.array .byte)) (by decide)
      have F_o6_coder := D_o6 (Or.inr (hw _ (List.mem_of_getElem? (i := 23) rfl))) (ty := .byte) (by decide)
      show Go p e below _ (T.setTop (mkF m 32 #[.val (.int n), .val (.int c0), .val (.int c1), .val (.ref o5)] [(.ref o6)]))
      refine Go.st (fun _ k => XS.dup X.here hx rfl (hb hby d1_32) rfl rfl k) ?_
      show Go p e below _ (T.setTop (mkF m 33 #[.val (.int n), .val (.int c0), .val (.int c1), .val (.ref o5)] [(.ref o6), (.ref o6)]))
      refine Go.st (fun _ k => XS.aloadN X.here hx rfl (hb hby d1_33) rfl rfl k) ?_
      show Go p e below _ (T.setTop (mkF m 34 #[.val (.int n), .val (.int c0), .val (.int c1), .val (.ref o5)] [(.ref o5), (.ref o6), (.ref o6)]))
      refine Go.newS (W := 1) (rest := [(.ref o6)]) (cs := [cc c0]) hw H X hx hZ hown (hml.trans rfl) hT (hw _ (List.mem_of_getElem? (i := 10) rfl)) (hb hby d1_34) (O.keep KB all0) ge_o6 Sc S16 A_o6 F_o6_value F_o6_coder (by have q := V_o5; (try simp only [own_nar] at q); exact q) rfl (Nat.le_of_ble_eq_true rfl) (own_all ⟨[c0], rfl⟩) (Nat.le_of_ble_eq_true rfl) (by decide) (by decide) (by decide) (by decide) ?_
      intro T h7 L vm hT N0 K0 S_o6 hZ hown H X
      have N := Fr.app N N0
      have KB := (KB).trans K0 (allS (Or.inr gk_o6) all0)
      have O := O.keep KB all0
      have K0b := K0b.trans KB (fun _ q => nomatch q)
      show Go p e below _ (T.setTop (mkF m 37 #[.val (.int n), .val (.int c0), .val (.int c1), .val (.ref o5)] [(.ref o6)]))
      refine Go.retH hEL H hZ X hx hlk hT hret rfl (riA rfl rfl) (hb hby d1_37) (by decide) (by decide) ?_
      refine ⟨_, rfl, N, keepE K0b, ?_⟩
      rw [strL, if_neg hc1, if_pos hc4]
      exact S_o6
    · refine Go.st (fun _ k => XS.icmpYes X.here hx rfl (pc0 := 17) (pc' := 38) rfl (hb hby d1_17) rfl (Jvm.Free.XT.ii_ne_t hc4) (by decide) (by decide) k) ?_
      show Go p e below _ (T.setTop (mkF m 38 #[.val (.int n), .val (.int c0), .val (.int c1), .unset] []))
      refine Go.st (fun _ k => XS.iconst X.here hx rfl (hb hby d1_38) k) ?_
      show Go p e below _ (T.setTop (mkF m 39 #[.val (.int n), .val (.int c0), .val (.int c1), .unset] [(.int (2 : Int32))]))
      obtain ⟨T, h8, k_o7, X, hT, Ex0, A_o7, st⟩ := newP X hx hZ (hw _ (List.mem_of_getElem? (i := 9) rfl)) hT (g := (mkF m 39 #[.val (.int n), .val (.int c0), .val (.int c1), .unset] [(.int (2 : Int32))])) rfl (hb hby d1_39) rfl (by decide : ¬ ((2 : Int32) < (0 : Int32))) (cap := 2) (by decide) (by decide) (by decide) (by decide)
      obtain ⟨o7, g_o7⟩ : ∃ z, z = h0.size := ⟨_, rfl⟩
      rw [← g_o7] at A_o7 st
      refine Go.st st ?_
      have ge_o7 : n0 ≤ o7 := Nat.le_trans (own_le (O)) (Nat.le_of_eq g_o7.symm)
      have gk_o7 : h0.size ≤ o7 := Nat.le_trans (Keep.refl h0 []).1 (Nat.le_of_eq g_o7.symm)
      have H := H.ext Ex0
      have KB := (Keep.refl h0 []).ext Ex0
      have V_o7 : Arv Z _ o7 k_o7 .char (2 : Int32) [(.int (0 : Int32)), (.int (0 : Int32))] (.int (0 : Int32)) := (Arv.new A_o7 (by decide)).pad (pad_rep [] (.int (0 : Int32)) 2)
      show Go p e below _ (T.setTop (mkF m 41 #[.val (.int n), .val (.int c0), .val (.int c1), .unset] [(.ref o7)]))
      refine Go.st (fun _ k => XS.astoreN X.here hx rfl (hb hby d1_41) rfl rfl (l' := #[.val (.int n), .val (.int c0), .val (.int c1), .val (.ref o7)]) rfl k) ?_
      show Go p e below _ (T.setTop (mkF m 42 #[.val (.int n), .val (.int c0), .val (.int c1), .val (.ref o7)] []))
      refine Go.st (fun _ k => XS.aloadN X.here hx rfl (hb hby d1_42) rfl rfl k) ?_
      show Go p e below _ (T.setTop (mkF m 43 #[.val (.int n), .val (.int c0), .val (.int c1), .val (.ref o7)] [(.ref o7)]))
      refine Go.st (fun _ k => XS.iconst X.here hx rfl (hb hby d1_43) k) ?_
      show Go p e below _ (T.setTop (mkF m 44 #[.val (.int n), .val (.int c0), .val (.int c1), .val (.ref o7)] [(.int (0 : Int32)), (.ref o7)]))
      refine Go.st (fun _ k => XS.iloadN X.here hx rfl (hb hby d1_44) rfl k) ?_
      show Go p e below _ (T.setTop (mkF m 45 #[.val (.int n), .val (.int c0), .val (.int c1), .val (.ref o7)] [(.int c0), (.int (0 : Int32)), (.ref o7)]))
      refine Go.st (fun _ k => XS.i2c X.here hx rfl (hb hby d1_45) rfl k) ?_
      show Go p e below _ (T.setTop (mkF m 46 #[.val (.int n), .val (.int c0), .val (.int c1), .val (.ref o7)] [(.int (c0.toUInt32.toUInt16.toUInt32.toInt32)), (.int (0 : Int32)), (.ref o7)]))
      obtain ⟨cl0, Ar0, q0, S0, M0, H0, U0⟩ := id V_o7
      obtain ⟨T, h9, X, hT, Wr0, st⟩ := stC X hx hZ hT Ar0 (j := (0 : Int32)) (inb_of S0 ⟨(by decide : ¬ ((0 : Int32) < (0 : Int32))), (by decide : (0 : Int32) < (2 : Int32))⟩) (g := (mkF m 46 #[.val (.int n), .val (.int c0), .val (.int c1), .val (.ref o7)] [(.int (c0.toUInt32.toUInt16.toUInt32.toInt32)), (.int (0 : Int32)), (.ref o7)])) rfl rfl (hb hby d1_46)
      refine Go.st st ?_
      have N := Fr.snoc X N ge_o7
      have H := H.wr Wr0 (Safe.arr hZ.alike Ar0 (by decide))
      have KB := (KB).wr Wr0 (Or.inr gk_o7)
      have V_o7 : Arv Z _ o7 k_o7 .char (2 : Int32) [(.int (nar .char (c0.toUInt32.toUInt16.toUInt32.toInt32))), (.int (0 : Int32))] (.int (0 : Int32)) := Arv.set Ar0 q0 S0 M0 H0 U0 (fits_nar_char _) Wr0 0 rfl (Nat.le_of_ble_eq_true rfl)
      show Go p e below _ (T.setTop (mkF m 47 #[.val (.int n), .val (.int c0), .val (.int c1), .val (.ref o7)] []))
      refine Go.st (fun _ k => XS.aloadN X.here hx rfl (hb hby d1_47) rfl rfl k) ?_
      show Go p e below _ (T.setTop (mkF m 48 #[.val (.int n), .val (.int c0), .val (.int c1), .val (.ref o7)] [(.ref o7)]))
      refine Go.st (fun _ k => XS.iconst X.here hx rfl (hb hby d1_48) k) ?_
      show Go p e below _ (T.setTop (mkF m 49 #[.val (.int n), .val (.int c0), .val (.int c1), .val (.ref o7)] [(.int (1 : Int32)), (.ref o7)]))
      refine Go.st (fun _ k => XS.iloadN X.here hx rfl (hb hby d1_49) rfl k) ?_
      show Go p e below _ (T.setTop (mkF m 50 #[.val (.int n), .val (.int c0), .val (.int c1), .val (.ref o7)] [(.int c1), (.int (1 : Int32)), (.ref o7)]))
      refine Go.st (fun _ k => XS.i2c X.here hx rfl (hb hby d1_50) rfl k) ?_
      show Go p e below _ (T.setTop (mkF m 51 #[.val (.int n), .val (.int c0), .val (.int c1), .val (.ref o7)] [(.int (c1.toUInt32.toUInt16.toUInt32.toInt32)), (.int (1 : Int32)), (.ref o7)]))
      obtain ⟨cl0, Ar0, q0, S0, M0, H0, U0⟩ := id V_o7
      obtain ⟨T, h10, X, hT, Wr0, st⟩ := stC X hx hZ hT Ar0 (j := (1 : Int32)) (inb_of S0 ⟨(by decide : ¬ ((1 : Int32) < (0 : Int32))), (by decide : (1 : Int32) < (2 : Int32))⟩) (g := (mkF m 51 #[.val (.int n), .val (.int c0), .val (.int c1), .val (.ref o7)] [(.int (c1.toUInt32.toUInt16.toUInt32.toInt32)), (.int (1 : Int32)), (.ref o7)])) rfl rfl (hb hby d1_51)
      refine Go.st st ?_
      have N := Fr.snoc X N ge_o7
      have H := H.wr Wr0 (Safe.arr hZ.alike Ar0 (by decide))
      have KB := (KB).wr Wr0 (Or.inr gk_o7)
      have V_o7 : Arv Z _ o7 k_o7 .char (2 : Int32) [(.int (nar .char (c0.toUInt32.toUInt16.toUInt32.toInt32))), (.int (nar .char (c1.toUInt32.toUInt16.toUInt32.toInt32)))] (.int (0 : Int32)) := Arv.set Ar0 q0 S0 M0 H0 U0 (fits_nar_char _) Wr0 1 rfl (Nat.le_of_ble_eq_true rfl)
      show Go p e below _ (T.setTop (mkF m 52 #[.val (.int n), .val (.int c0), .val (.int c1), .val (.ref o7)] []))
      obtain ⟨T, h11, X, hT, Ex0, A_o8, D_o8, -, st⟩ := newO X hx hZ hown (hw _ (List.mem_of_getElem? (i := 6) rfl)) (hw _ (List.mem_of_getElem? (i := 7) rfl)) (hw _ (List.mem_of_getElem? (i := 8) rfl)) hT (g := (mkF m 52 #[.val (.int n), .val (.int c0), .val (.int c1), .val (.ref o7)] [])) rfl (hb hby d1_52) (by decide) (by decide)
      obtain ⟨o8, g_o8⟩ : ∃ z, z = h10.size := ⟨_, rfl⟩
      rw [← g_o8] at A_o8 D_o8 st
      refine Go.st st ?_
      have ge_o8 : n0 ≤ o8 := Nat.le_trans (own_le (O.keep KB all0)) (Nat.le_of_eq g_o8.symm)
      have gk_o8 : h0.size ≤ o8 := Nat.le_trans (KB).1 (Nat.le_of_eq g_o8.symm)
      have Sf_o8 := Safe.ext Ex0 H.2.1 (Safe.new (Nat.le_of_eq g_o8.symm))
      have H := H.ext Ex0
      have V_o7 := V_o7.ext Ex0
      have KB := (KB).ext Ex0
      have F_o8_value := D_o8 (Or.inr (hw _ (List.mem_of_getElem? (i := 22) rfl))) (ty := (.array .byte)) (by decide)
      have F_o8_coder := D_o8 (Or.inr (hw _ (List.mem_of_getElem? (i := 23) rfl))) (ty := .byte) (by decide)
      show Go p e below _ (T.setTop (mkF m 55 #[.val (.int n), .val (.int c0), .val (.int c1), .val (.ref o7)] [(.ref o8)]))
      refine Go.st (fun _ k => XS.dup X.here hx rfl (hb hby d1_55) rfl rfl k) ?_
      show Go p e below _ (T.setTop (mkF m 56 #[.val (.int n), .val (.int c0), .val (.int c1), .val (.ref o7)] [(.ref o8), (.ref o8)]))
      refine Go.st (fun _ k => XS.aloadN X.here hx rfl (hb hby d1_56) rfl rfl k) ?_
      show Go p e below _ (T.setTop (mkF m 57 #[.val (.int n), .val (.int c0), .val (.int c1), .val (.ref o7)] [(.ref o7), (.ref o8), (.ref o8)]))
      refine Go.newS (W := 1) (rest := [(.ref o8)]) (cs := [cc c0, cc c1]) hw H X hx hZ hown (hml.trans rfl) hT (hw _ (List.mem_of_getElem? (i := 10) rfl)) (hb hby d1_57) (O.keep KB all0) ge_o8 Sc S16 A_o8 F_o8_value F_o8_coder (by have q := V_o7; (try simp only [own_nar] at q); exact q) rfl (Nat.le_of_ble_eq_true rfl) (own_all ⟨[c0, c1], rfl⟩) (Nat.le_of_ble_eq_true rfl) (by decide) (by decide) (by decide) (by decide) ?_
      intro T h12 L vm hT N0 K0 S_o8 hZ hown H X
      have N := Fr.app N N0
      have KB := (KB).trans K0 (allS (Or.inr gk_o8) all0)
      have O := O.keep KB all0
      have K0b := K0b.trans KB (fun _ q => nomatch q)
      show Go p e below _ (T.setTop (mkF m 60 #[.val (.int n), .val (.int c0), .val (.int c1), .val (.ref o7)] [(.ref o8)]))
      refine Go.retH hEL H hZ X hx hlk hT hret rfl (riA rfl rfl) (hb hby d1_60) (by decide) (by decide) ?_
      refine ⟨_, rfl, N, keepE K0b, ?_⟩
      rw [strL, if_neg hc1, if_neg hc4]
      exact S_o8
def QJ (Z : State) (x y1 : Addr) (n0 : Nat) (h0 : Heap) (v : Option Value) (h : Heap) (L : List Loc) : Prop := v = none ∧ Fr n0 L ∧ Keep h0 h [x] ∧ Exa Z h x "com/example/orgweave/orgweave/core/JsonValue" ∧ Fld Z h x "com/example/orgweave/orgweave/core/JsonValue" "key" "Ljava/lang/String;" (.ref y1)
theorem d13_0 : decode prog_21_method_1_code 0 = .ok (.aload_n 0, 1) := by decide +kernel
theorem d13_1 : decode prog_21_method_1_code 1 = .ok (.invokespecial 1, 3) := by decide +kernel
theorem d13_4 : decode prog_21_method_1_code 4 = .ok (.aload_n 0, 1) := by decide +kernel
theorem d13_5 : decode prog_21_method_1_code 5 = .ok (.aload_n 1, 1) := by decide +kernel
theorem d13_6 : decode prog_21_method_1_code 6 = .ok (.putfield 7, 3) := by decide +kernel
theorem d13_9 : decode prog_21_method_1_code 9 = .ok (.aload_n 0, 1) := by decide +kernel
theorem d13_10 : decode prog_21_method_1_code 10 = .ok (.aload_n 2, 1) := by decide +kernel
theorem d13_11 : decode prog_21_method_1_code 11 = .ok (.putfield 13, 3) := by decide +kernel
theorem d13_14 : decode prog_21_method_1_code 14 = .ok (.return_, 1) := by decide +kernel
theorem pn_11 : plainFor (⟨"com/example/orgweave/orgweave/core/JsonValue", "<init>", "(Ljava/lang/String;Ljava/lang/String;)V"⟩ : MethodName) = true := by first | exact plainFor_of_name (by first | (simp [plainName, overriddenIn]; done) | decide +kernel) | decide +kernel
theorem ef_AAA_3 (m : MethodId) (y0 : Addr) (y1 : Addr) (y2 : Addr) : entryFrame m #[(.ref y0), (.ref y1), (.ref y2)] 3 = mkF m 0 #[.val (.ref y0), .val (.ref y1), .val (.ref y2)] [] := by first | (simp [entryFrame, mkF, argsToLocals, Value.category]; done) | rfl
set_option maxRecDepth 65536 in
set_option maxHeartbeats 40000000 in
theorem met_jv (l : Launch) (Z : State) (a0 : Array Value) (hw : ∀ d ∈ tables_1, d.before a0 Z = true) (ws : List Jvm.Cond) (n0 : Nat) (x y0 y1 : Addr) (h0 : Heap) (ge_x : n0 ≤ x) (A_x : Exa Z h0 x "com/example/orgweave/orgweave/core/JsonValue") (F_x_text : Fld Z h0 x "com/example/orgweave/orgweave/core/JsonValue" "text" "Ljava/lang/String;" .null) (F_x_key : Fld Z h0 x "com/example/orgweave/orgweave/core/JsonValue" "key" "Ljava/lang/String;" .null) :
    MetFree l (⟨"com/example/orgweave/orgweave/core/JsonValue", "<init>", "(Ljava/lang/String;Ljava/lang/String;)V"⟩ : MethodName) (head1 (Jvm.Cond.code (⟨"com/example/orgweave/orgweave/core/JsonValue", "<init>", "(Ljava/lang/String;Ljava/lang/String;)V"⟩ : MethodName) prog_21_method_1_code 3 none :: ws) ({ frames := 1, cells := 0, slots := 0, locals := 12 } : Room)) (fun aa U => aa = #[(.ref x), (.ref y0), (.ref y1)] ∧ Z.Warmed39 U.vm ∧ U.heap = h0) (fun _ _ _ _ _ => True) (fun _ U o U' => ∃ v L, o = .returned v ∧ QJ Z x y1 n0 h0 v U'.heap L ∧ FrameEnd U o U' L ({ frames := 1, cells := 0, slots := 0, locals := 12 } : Room).cells ({ frames := 1, cells := 0, slots := 0, locals := 12 } : Room).slots) := by
  refine openP (y := (⟨"com/example/orgweave/orgweave/core/JsonValue", "<init>", "(Ljava/lang/String;Ljava/lang/String;)V"⟩ : MethodName)) pn_11 ?_
  intro p e s m below meth c T hx hby hml hret hlk hnm hZ hown X hT
  refine Go.st (fun _ k => castTop (ef_AAA_3 m x y0 y1) k) ?_
  show Go p e below _ (T.setTop (mkF m 0 #[.val (.ref x), .val (.ref y0), .val (.ref y1)] []))
  have N := Fr.nil n0
  refine Go.st (fun _ k => XS.aloadN X.here hx rfl (hb hby d13_0) rfl rfl k) ?_
  show Go p e below _ (T.setTop (mkF m 1 #[.val (.ref x), .val (.ref y0), .val (.ref y1)] [(.ref x)]))
  obtain ⟨T, X, hT, st⟩ := initO X hx hZ hown (hw _ (List.mem_of_getElem? (i := 65) rfl)) (hw _ (List.mem_of_getElem? (i := 18) rfl)) (hw _ (List.mem_of_getElem? (i := 19) rfl)) hT (g := (mkF m 1 #[.val (.ref x), .val (.ref y0), .val (.ref y1)] [(.ref x)])) rfl (by rw [hml]; rfl) rfl (hb hby d13_1) (by decide) (W := 0) (by show 2 * 0 + _ ≤ _; exact Nat.le_of_ble_eq_true rfl) (by decide)
  refine Go.st st ?_
  show Go p e below _ (T.setTop (mkF m 4 #[.val (.ref x), .val (.ref y0), .val (.ref y1)] []))
  refine Go.st (fun _ k => XS.aloadN X.here hx rfl (hb hby d13_4) rfl rfl k) ?_
  show Go p e below _ (T.setTop (mkF m 5 #[.val (.ref x), .val (.ref y0), .val (.ref y1)] [(.ref x)]))
  refine Go.st (fun _ k => XS.aloadN X.here hx rfl (hb hby d13_5) rfl rfl k) ?_
  show Go p e below _ (T.setTop (mkF m 6 #[.val (.ref x), .val (.ref y0), .val (.ref y1)] [(.ref y0), (.ref x)]))
  obtain ⟨T, h1, X, hT, Wr0, st⟩ := putF X hx hZ hown (host := "") (Or.inl (hw _ (List.mem_of_getElem? (i := 66) rfl))) Via.refl hT F_x_text A_x (Or.inr ⟨(hw _ (List.mem_of_getElem? (i := 67) rfl)), rfl, hnm⟩) (hw _ (List.mem_of_getElem? (i := 60) rfl)) (ty := (.object "java/lang/String")) (by decide) rfl rfl (g := (mkF m 6 #[.val (.ref x), .val (.ref y0), .val (.ref y1)] [(.ref y0), (.ref x)])) rfl rfl (hb hby d13_6)
  refine Go.st st ?_
  have N := Fr.snoc X N ge_x
  have A_x := A_x.wr Wr0
  have F_x_text := F_x_text.same Wr0
  have F_x_key := F_x_key.other Wr0 (Or.inr (slot_ne (C := "com/example/orgweave/orgweave/core/JsonValue") (Or.inr (hw _ (List.mem_of_getElem? (i := 69) rfl))) (Or.inr (hw _ (List.mem_of_getElem? (i := 67) rfl))) (by decide) (t := (.object "java/lang/String")) (by decide) (t' := (.object "java/lang/String")) (by decide)))
  have KB := (Keep.refl h0 [x]).wr Wr0 (Or.inl (List.mem_of_getElem? (i := 0) rfl))
  show Go p e below _ (T.setTop (mkF m 9 #[.val (.ref x), .val (.ref y0), .val (.ref y1)] []))
  refine Go.st (fun _ k => XS.aloadN X.here hx rfl (hb hby d13_9) rfl rfl k) ?_
  show Go p e below _ (T.setTop (mkF m 10 #[.val (.ref x), .val (.ref y0), .val (.ref y1)] [(.ref x)]))
  refine Go.st (fun _ k => XS.aloadN X.here hx rfl (hb hby d13_10) rfl rfl k) ?_
  show Go p e below _ (T.setTop (mkF m 11 #[.val (.ref x), .val (.ref y0), .val (.ref y1)] [(.ref y1), (.ref x)]))
  obtain ⟨T, h2, X, hT, Wr0, st⟩ := putF X hx hZ hown (host := "") (Or.inl (hw _ (List.mem_of_getElem? (i := 68) rfl))) Via.refl hT F_x_key A_x (Or.inr ⟨(hw _ (List.mem_of_getElem? (i := 69) rfl)), rfl, hnm⟩) (hw _ (List.mem_of_getElem? (i := 60) rfl)) (ty := (.object "java/lang/String")) (by decide) rfl rfl (g := (mkF m 11 #[.val (.ref x), .val (.ref y0), .val (.ref y1)] [(.ref y1), (.ref x)])) rfl rfl (hb hby d13_11)
  refine Go.st st ?_
  have N := Fr.snoc X N ge_x
  have A_x := A_x.wr Wr0
  have F_x_text := F_x_text.other Wr0 (Or.inr (slot_ne (C := "com/example/orgweave/orgweave/core/JsonValue") (Or.inr (hw _ (List.mem_of_getElem? (i := 67) rfl))) (Or.inr (hw _ (List.mem_of_getElem? (i := 69) rfl))) (by decide) (t := (.object "java/lang/String")) (by decide) (t' := (.object "java/lang/String")) (by decide)))
  have F_x_key := F_x_key.same Wr0
  have KB := (KB).wr Wr0 (Or.inl (List.mem_of_getElem? (i := 0) rfl))
  show Go p e below _ (T.setTop (mkF m 14 #[.val (.ref x), .val (.ref y0), .val (.ref y1)] []))
  refine Go.retV X hx hlk hT hret (hb hby d13_14) (by decide) (by decide) ?_
  exact ⟨rfl, N, KB, A_x, F_x_key⟩
theorem pd_9 : parseMethodDescriptor "(Ljava/lang/Object;)Z" = some ⟨[(.object "java/lang/Object")], (some .boolean)⟩ := by decide +kernel
def f_jeq (cs ds : List Int32) : Int32 := (if (if cs = ds then 1 else 0) = (0 : Int32) then (0 : Int32) else (1 : Int32))
theorem d14_0 : decode prog_21_method_4_code 0 = .ok (.aload_n 1, 1) := by decide +kernel
theorem d14_1 : decode prog_21_method_4_code 1 = .ok (.instanceof 8, 3) := by decide +kernel
theorem d14_4 : decode prog_21_method_4_code 4 = .ok (.ifCond .eq 26, 3) := by decide +kernel
theorem d14_7 : decode prog_21_method_4_code 7 = .ok (.aload_n 1, 1) := by decide +kernel
theorem d14_8 : decode prog_21_method_4_code 8 = .ok (.checkcast 8, 3) := by decide +kernel
theorem d14_11 : decode prog_21_method_4_code 11 = .ok (.astore_n 2, 1) := by decide +kernel
theorem d14_12 : decode prog_21_method_4_code 12 = .ok (.aload_n 0, 1) := by decide +kernel
theorem d14_13 : decode prog_21_method_4_code 13 = .ok (.getfield 13, 3) := by decide +kernel
theorem d14_16 : decode prog_21_method_4_code 16 = .ok (.aload_n 2, 1) := by decide +kernel
theorem d14_17 : decode prog_21_method_4_code 17 = .ok (.getfield 13, 3) := by decide +kernel
theorem d14_20 : decode prog_21_method_4_code 20 = .ok (.invokevirtual 49, 3) := by decide +kernel
theorem d14_23 : decode prog_21_method_4_code 23 = .ok (.ifCond .eq 7, 3) := by decide +kernel
theorem d14_26 : decode prog_21_method_4_code 26 = .ok (.iconst 1, 1) := by decide +kernel
theorem d14_27 : decode prog_21_method_4_code 27 = .ok (.goto 4, 3) := by decide +kernel
theorem d14_30 : decode prog_21_method_4_code 30 = .ok (.iconst 0, 1) := by decide +kernel
theorem d14_31 : decode prog_21_method_4_code 31 = .ok (.ireturn, 1) := by decide +kernel
theorem pn_12 : plainFor (⟨"com/example/orgweave/orgweave/core/JsonValue", "equals", "(Ljava/lang/Object;)Z"⟩ : MethodName) = true := by first | exact plainFor_of_name (by first | (simp [plainName, overriddenIn]; done) | decide +kernel) | decide +kernel
theorem ef_AA_3 (m : MethodId) (y0 : Addr) (y1 : Addr) : entryFrame m #[(.ref y0), (.ref y1)] 3 = mkF m 0 #[.val (.ref y0), .val (.ref y1), .unset] [] := by first | (simp [entryFrame, mkF, argsToLocals, Value.category]; done) | rfl
set_option maxRecDepth 65536 in
set_option maxHeartbeats 40000000 in
theorem met_jeq (l : Launch) (Z : State) (a0 : Array Value) (hw : ∀ d ∈ tables_1, d.before a0 Z = true) (ws : List Jvm.Cond) (z : Int32) (n0 : Nat) (u v u1 v1 : Addr) (cs ds : List Int32) (h0 : Heap) (O : Old Z n0 h0) (Sc : Stat Z z) (A_v : Exa Z h0 v "com/example/orgweave/orgweave/core/JsonValue") (F_u : Fld Z h0 u "com/example/orgweave/orgweave/core/JsonValue" "key" "Ljava/lang/String;" (.ref u1)) (F_v : Fld Z h0 v "com/example/orgweave/orgweave/core/JsonValue" "key" "Ljava/lang/String;" (.ref v1)) (S_u1 : Str Z h0 u1 cs) (S_v1 : Str Z h0 v1 ds) :
    MetFree l (⟨"com/example/orgweave/orgweave/core/JsonValue", "equals", "(Ljava/lang/Object;)Z"⟩ : MethodName) (head1 (Jvm.Cond.code (⟨"com/example/orgweave/orgweave/core/JsonValue", "equals", "(Ljava/lang/Object;)Z"⟩ : MethodName) prog_21_method_4_code 3 (some .boolean) :: ws) ({ frames := 2, cells := 0, slots := 0, locals := 28 } : Room)) (fun aa U => aa = #[(.ref u), (.ref v)] ∧ Z.Warmed39 U.vm ∧ U.heap = h0) (fun _ _ _ _ _ => True) (fun _ U o U' => ∃ v L, o = .returned v ∧ QV (.int (f_jeq cs ds)) h0 v U'.heap L ∧ FrameEnd U o U' L ({ frames := 2, cells := 0, slots := 0, locals := 28 } : Room).cells ({ frames := 2, cells := 0, slots := 0, locals := 28 } : Room).slots) := by
  refine openP (y := (⟨"com/example/orgweave/orgweave/core/JsonValue", "equals", "(Ljava/lang/Object;)Z"⟩ : MethodName)) pn_12 ?_
  intro p e s m below meth c T hx hby hml hret hlk hnm hZ hown X hT
  refine Go.st (fun _ k => castTop (ef_AA_3 m u v) k) ?_
  show Go p e below _ (T.setTop (mkF m 0 #[.val (.ref u), .val (.ref v), .unset] []))
  refine Go.st (fun _ k => XS.aloadN X.here hx rfl (hb hby d14_0) rfl rfl k) ?_
  show Go p e below _ (T.setTop (mkF m 1 #[.val (.ref u), .val (.ref v), .unset] [(.ref v)]))
  obtain ⟨T, X, hT, st⟩ := instY X hx hZ hown (hw _ (List.mem_of_getElem? (i := 75) rfl)) hT (Ins.self A_v) (g := (mkF m 1 #[.val (.ref u), .val (.ref v), .unset] [(.ref v)])) rfl rfl (hb hby d14_1)
  refine Go.st st ?_
  show Go p e below _ (T.setTop (mkF m 4 #[.val (.ref u), .val (.ref v), .unset] [(.int (1 : Int32))]))
  refine Go.st (fun _ k => XS.ifNo X.here hx rfl (hb hby d14_4) rfl (Jvm.Free.XT.i0_eq_f (by decide : ¬ ((1 : Int32) = (0 : Int32)))) k) ?_
  show Go p e below _ (T.setTop (mkF m 7 #[.val (.ref u), .val (.ref v), .unset] []))
  refine Go.st (fun _ k => XS.aloadN X.here hx rfl (hb hby d14_7) rfl rfl k) ?_
  show Go p e below _ (T.setTop (mkF m 8 #[.val (.ref u), .val (.ref v), .unset] [(.ref v)]))
  obtain ⟨T, X, hT, st⟩ := castY X hx hZ hown (hw _ (List.mem_of_getElem? (i := 75) rfl)) hT (Ins.self A_v) (g := (mkF m 8 #[.val (.ref u), .val (.ref v), .unset] [(.ref v)])) rfl rfl (hb hby d14_8)
  refine Go.st st ?_
  show Go p e below _ (T.setTop (mkF m 11 #[.val (.ref u), .val (.ref v), .unset] [(.ref v)]))
  refine Go.st (fun _ k => XS.astoreN X.here hx rfl (hb hby d14_11) rfl rfl (l' := #[.val (.ref u), .val (.ref v), .val (.ref v)]) rfl k) ?_
  show Go p e below _ (T.setTop (mkF m 12 #[.val (.ref u), .val (.ref v), .val (.ref v)] []))
  refine Go.st (fun _ k => XS.aloadN X.here hx rfl (hb hby d14_12) rfl rfl k) ?_
  show Go p e below _ (T.setTop (mkF m 13 #[.val (.ref u), .val (.ref v), .val (.ref v)] [(.ref u)]))
  obtain ⟨T, X, hT, st⟩ := getF X hx hZ hown (host := "") (Or.inl (hw _ (List.mem_of_getElem? (i := 68) rfl))) Via.refl hT F_u (g := (mkF m 13 #[.val (.ref u), .val (.ref v), .val (.ref v)] [(.ref u)])) rfl rfl (hb hby d14_13)
  refine Go.st st ?_
  show Go p e below _ (T.setTop (mkF m 16 #[.val (.ref u), .val (.ref v), .val (.ref v)] [(.ref u1)]))
  refine Go.st (fun _ k => XS.aloadN X.here hx rfl (hb hby d14_16) rfl rfl k) ?_
  show Go p e below _ (T.setTop (mkF m 17 #[.val (.ref u), .val (.ref v), .val (.ref v)] [(.ref v), (.ref u1)]))
  obtain ⟨T, X, hT, st⟩ := getF X hx hZ hown (host := "") (Or.inl (hw _ (List.mem_of_getElem? (i := 68) rfl))) Via.refl hT F_v (g := (mkF m 17 #[.val (.ref u), .val (.ref v), .val (.ref v)] [(.ref v), (.ref u1)])) rfl rfl (hb hby d14_17)
  refine Go.st st ?_
  show Go p e below _ (T.setTop (mkF m 20 #[.val (.ref u), .val (.ref v), .val (.ref v)] [(.ref v1), (.ref u1)]))
  refine Go.virtV (K := "java/lang/String") (z := (⟨"java/lang/String", "equals", "(Ljava/lang/Object;)Z"⟩ : MethodName)) (argsL := [(.ref v1)]) (rest := []) (W := 0) (w := (.int (if cs = ds then 1 else 0))) X hx hZ hown (hml.trans rfl) hT S_u1.exa (hw _ (List.mem_of_getElem? (i := 77) rfl)) (hw _ (List.mem_of_getElem? (i := 78) rfl)) (hw _ (List.mem_of_getElem? (i := 80) rfl)) (hw _ (List.mem_of_getElem? (i := 79) rfl)) (by decide) pd_9 rfl rfl (Nat.le_of_ble_eq_true rfl) (hb hby d14_20) (notFace_of_selects (args := #[]) (mvT hZ (hw _ (List.mem_of_getElem? (i := 80) rfl)))) (own_eq (W := 0) hw hZ O Sc S_u1 S_v1 (by decide) (by decide)) (by decide) (by decide) ?_
  intro T hT X
  show Go p e below _ (T.setTop (mkF m 23 #[.val (.ref u), .val (.ref v), .val (.ref v)] [(.int (if cs = ds then 1 else 0))]))
  by_cases hc1 : (if cs = ds then 1 else 0) = (0 : Int32)
  · refine Go.st (fun _ k => XS.ifYes X.here hx rfl (pc0 := 23) (pc' := 30) rfl (hb hby d14_23) rfl (Jvm.Free.XT.i0_eq_t hc1) (by decide) (by decide) k) ?_
    show Go p e below _ (T.setTop (mkF m 30 #[.val (.ref u), .val (.ref v), .val (.ref v)] []))
    refine Go.st (fun _ k => XS.iconst X.here hx rfl (hb hby d14_30) k) ?_
    show Go p e below _ (T.setTop (mkF m 31 #[.val (.ref u), .val (.ref v), .val (.ref v)] [(.int (0 : Int32))]))
    refine Go.ret X hx hlk hT hret (by decide) (riI (by simp)) (hb hby d14_31) (by decide) (by decide) ?_
    exact ⟨congrArg (fun z => some (Value.int z)) (by rw [f_jeq, if_pos hc1]), rfl, rfl⟩
  · refine Go.st (fun _ k => XS.ifNo X.here hx rfl (hb hby d14_23) rfl (Jvm.Free.XT.i0_eq_f hc1) k) ?_
    show Go p e below _ (T.setTop (mkF m 26 #[.val (.ref u), .val (.ref v), .val (.ref v)] []))
    refine Go.st (fun _ k => XS.iconst X.here hx rfl (hb hby d14_26) k) ?_
    show Go p e below _ (T.setTop (mkF m 27 #[.val (.ref u), .val (.ref v), .val (.ref v)] [(.int (1 : Int32))]))
    refine Go.st (fun _ k => XS.goto X.here hx rfl (pc0 := 27) (pc' := 31) rfl (hb hby d14_27) (by decide) (by decide) k) ?_
    show Go p e below _ (T.setTop (mkF m 31 #[.val (.ref u), .val (.ref v), .val (.ref v)] [(.int (1 : Int32))]))
    refine Go.ret X hx hlk hT hret (by decide) (riI (by simp)) (hb hby d14_31) (by decide) (by decide) ?_
    exact ⟨congrArg (fun z => some (Value.int z)) (by rw [f_jeq, if_neg hc1]), rfl, rfl⟩
theorem ef_AN_3 (m : MethodId) (y0 : Addr) : entryFrame m #[(.ref y0), .null] 3 = mkF m 0 #[.val (.ref y0), .val .null, .unset] [] := by first | (simp [entryFrame, mkF, argsToLocals, Value.category]; done) | rfl
set_option maxRecDepth 65536 in
set_option maxHeartbeats 40000000 in
theorem met_jeqN (l : Launch) (Z : State) (a0 : Array Value) (hw : ∀ d ∈ tables_1, d.before a0 Z = true) (ws : List Jvm.Cond) (u : Addr) (h0 : Heap)  :
    MetFree l (⟨"com/example/orgweave/orgweave/core/JsonValue", "equals", "(Ljava/lang/Object;)Z"⟩ : MethodName) (head1 (Jvm.Cond.code (⟨"com/example/orgweave/orgweave/core/JsonValue", "equals", "(Ljava/lang/Object;)Z"⟩ : MethodName) prog_21_method_4_code 3 (some .boolean) :: ws) ({ frames := 0, cells := 0, slots := 0, locals := 0 } : Room)) (fun aa U => aa = #[(.ref u), .null] ∧ Z.Warmed39 U.vm ∧ U.heap = h0) (fun _ _ _ _ _ => True) (fun _ U o U' => ∃ v L, o = .returned v ∧ QV (.int 0) h0 v U'.heap L ∧ FrameEnd U o U' L ({ frames := 0, cells := 0, slots := 0, locals := 0 } : Room).cells ({ frames := 0, cells := 0, slots := 0, locals := 0 } : Room).slots) := by
  refine openP (y := (⟨"com/example/orgweave/orgweave/core/JsonValue", "equals", "(Ljava/lang/Object;)Z"⟩ : MethodName)) pn_12 ?_
  intro p e s m below meth c T hx hby hml hret hlk hnm hZ hown X hT
  refine Go.st (fun _ k => castTop (ef_AN_3 m u) k) ?_
  show Go p e below _ (T.setTop (mkF m 0 #[.val (.ref u), .val .null, .unset] []))
  refine Go.st (fun _ k => XS.aloadN X.here hx rfl (hb hby d14_0) rfl rfl k) ?_
  show Go p e below _ (T.setTop (mkF m 1 #[.val (.ref u), .val .null, .unset] [.null]))
  refine Go.st (fun t k => X.instanceofNull hx (g := (mkF m 1 #[.val (.ref u), .val .null, .unset] [.null])) rfl rfl (hb hby d14_1) t k) ?_
  show Go p e below _ (T.setTop (mkF m 4 #[.val (.ref u), .val .null, .unset] [(.int (0 : Int32))]))
  refine Go.st (fun _ k => XS.ifYes X.here hx rfl (pc0 := 4) (pc' := 30) rfl (hb hby d14_4) rfl (Jvm.Free.XT.i0_eq_t (by decide : (0 : Int32) = (0 : Int32))) (by decide) (by decide) k) ?_
  show Go p e below _ (T.setTop (mkF m 30 #[.val (.ref u), .val .null, .unset] []))
  refine Go.st (fun _ k => XS.iconst X.here hx rfl (hb hby d14_30) k) ?_
  show Go p e below _ (T.setTop (mkF m 31 #[.val (.ref u), .val .null, .unset] [(.int (0 : Int32))]))
  refine Go.ret X hx hlk hT hret (by decide) (riI (by simp)) (hb hby d14_31) (by decide) (by decide) ?_
  exact ⟨rfl, rfl, rfl⟩
theorem own_notSub {Z : State} {a0 : Array Value} (hw : ∀ d ∈ tables_1, d.before a0 Z = true) : ∃ c t, Z.vm.findClass "java/lang/String" = some c ∧ Z.vm.findClass "com/example/orgweave/orgweave/core/JsonValue" = some t ∧ Z.vm.assignable c t = false := by
  have w : (Cond.superclass "java/lang/String" "java/lang/Object").before a0 Z = true := (hw _ (List.mem_of_getElem? (i := 83) rfl))
  obtain ⟨t, kt, g0, g2, g5, g7, -⟩ := Cond.instantiable_spec (hw _ (List.mem_of_getElem? (i := 60) rfl))
  obtain ⟨cO, kO, o1, o2, o3, -, -⟩ := Cond.noSuperclass_spec (hw _ (List.mem_of_getElem? (i := 84) rfl))
  have n1 : NS Z "java/lang/Object" "com/example/orgweave/orgweave/core/JsonValue" := by
    refine ⟨cO, t, o1, g0, fun fuel => ?_⟩
    have ne := ids_ne o1 g0 (by decide)
    cases fuel with
    | zero => rfl
    | succ f => simp [Vm.isSubclassAux, ne, o2, o3]
  obtain ⟨c, t', h0, g0', n3⟩ := NS.step w n1 (by decide)
  cases g0.symm.trans g0'
  obtain ⟨p, k, kp, h1, h2, h3, h4, h5, -, h7⟩ := Cond.superclass_spec h0 w
  have ne := ids_ne h0 g0 (by decide)
  have g8 : kt.isInterface = false := (Bool.or_eq_false_iff.mp g7).1
  refine ⟨c, t, h0, g0, ?_⟩
  show Z.vm.assignableAux (255 + 1) c t = false
  simp [Vm.assignableAux, ne, h2, g2, h5, g5, g8, Vm.isSubclass, n3]
set_option maxRecDepth 65536 in
set_option maxHeartbeats 40000000 in
theorem met_jeqS (l : Launch) (Z : State) (a0 : Array Value) (hw : ∀ d ∈ tables_1, d.before a0 Z = true) (ws : List Jvm.Cond) (u v : Addr) (h0 : Heap) (A_v : Exa Z h0 v ST) :
    MetFree l (⟨"com/example/orgweave/orgweave/core/JsonValue", "equals", "(Ljava/lang/Object;)Z"⟩ : MethodName) (head1 (Jvm.Cond.code (⟨"com/example/orgweave/orgweave/core/JsonValue", "equals", "(Ljava/lang/Object;)Z"⟩ : MethodName) prog_21_method_4_code 3 (some .boolean) :: ws) ({ frames := 0, cells := 0, slots := 0, locals := 0 } : Room)) (fun aa U => aa = #[(.ref u), (.ref v)] ∧ Z.Warmed39 U.vm ∧ U.heap = h0) (fun _ _ _ _ _ => True) (fun _ U o U' => ∃ v L, o = .returned v ∧ QV (.int 0) h0 v U'.heap L ∧ FrameEnd U o U' L ({ frames := 0, cells := 0, slots := 0, locals := 0 } : Room).cells ({ frames := 0, cells := 0, slots := 0, locals := 0 } : Room).slots) := by
  refine openP (y := (⟨"com/example/orgweave/orgweave/core/JsonValue", "equals", "(Ljava/lang/Object;)Z"⟩ : MethodName)) pn_12 ?_
  intro p e s m below meth c T hx hby hml hret hlk hnm hZ hown X hT
  refine Go.st (fun _ k => castTop (ef_AA_3 m u v) k) ?_
  show Go p e below _ (T.setTop (mkF m 0 #[.val (.ref u), .val (.ref v), .unset] []))
  have hno := own_notSub hw
  refine Go.st (fun _ k => XS.aloadN X.here hx rfl (hb hby d14_0) rfl rfl k) ?_
  show Go p e below _ (T.setTop (mkF m 1 #[.val (.ref u), .val (.ref v), .unset] [(.ref v)]))
  obtain ⟨T, X, hT, st⟩ := instNo X hx hZ hown (hw _ (List.mem_of_getElem? (i := 75) rfl)) hT A_v hno (g := (mkF m 1 #[.val (.ref u), .val (.ref v), .unset] [(.ref v)])) rfl rfl (hb hby d14_1)
  refine Go.st st ?_
  show Go p e below _ (T.setTop (mkF m 4 #[.val (.ref u), .val (.ref v), .unset] [(.int (0 : Int32))]))
  refine Go.st (fun _ k => XS.ifYes X.here hx rfl (pc0 := 4) (pc' := 30) rfl (hb hby d14_4) rfl (Jvm.Free.XT.i0_eq_t (by decide : (0 : Int32) = (0 : Int32))) (by decide) (by decide) k) ?_
  show Go p e below _ (T.setTop (mkF m 30 #[.val (.ref u), .val (.ref v), .unset] []))
  refine Go.st (fun _ k => XS.iconst X.here hx rfl (hb hby d14_30) k) ?_
  show Go p e below _ (T.setTop (mkF m 31 #[.val (.ref u), .val (.ref v), .unset] [(.int (0 : Int32))]))
  refine Go.ret X hx hlk hT hret (by decide) (riI (by simp)) (hb hby d14_31) (by decide) (by decide) ?_
  exact ⟨rfl, rfl, rfl⟩
theorem own_self (cs : List Int32) : f_jeq cs cs = 1 := by rw [f_jeq]; simp
theorem pd_10 : parseMethodDescriptor "(III)Ljava/lang/String;" = some ⟨[.int, .int, .int], (some (.object "java/lang/String"))⟩ := by decide +kernel
theorem pd_11 : parseMethodDescriptor "(Ljava/lang/String;Ljava/lang/String;)V" = some ⟨[(.object "java/lang/String"), (.object "java/lang/String")], none⟩ := by decide +kernel
theorem own_3 {v : Int32} {y : Int64} (h : v = (y &&& (3 : Int64)).toInt32 % (3 : Int32)) : v = 0 ∨ v = 1 ∨ v = 2 := by
  subst h
  have h1 := c_maskL y 3 2 (by decide) (by decide)
  have h0 := c_l2i (y &&& 3)
  have hr := rng32 (y &&& 3).toInt32
  have h3 : (y &&& 3).toInt32.toInt = y.toInt % 4 := by rw [h1] at h0; have : ((2 ^ 2 : Nat) : Int) = 4 := by decide
                                                        rw [this] at h0; omega
  have h2 := (c_irem (y &&& 3).toInt32 3 3 (by decide)).1 (by omega)
  have : ((y &&& 3).toInt32 % 3).toInt = 0 ∨ ((y &&& 3).toInt32 % 3).toInt = 1 ∨ ((y &&& 3).toInt32 % 3).toInt = 2 := by omega
  rcases this with q | q | q
  · exact Or.inl (Int32.toInt_inj.mp q)
  · exact Or.inr (Or.inl (Int32.toInt_inj.mp q))
  · exact Or.inr (Or.inr (Int32.toInt_inj.mp q))
abbrev M16 (y : Int32) : Prop := 0 ≤ y.toInt ∧ y.toInt < 65536
theorem own_m16 {v : Int32} {y : Int64} (h : v = (y &&& (65535 : Int64)).toInt32) : M16 v := by
  subst h
  have h1 := c_maskL y 65535 16 (by decide) (by decide)
  have h0 := c_l2i (y &&& 65535)
  have hr := rng32 (y &&& 65535).toInt32
  have e : ((2 ^ 16 : Nat) : Int) = 65536 := by decide
  rw [h1, e] at h0
  constructor <;> omega
theorem own_xorlt {a b : Int32} (k : Nat) (hk : k ≤ 31) (ha : 0 ≤ a.toInt ∧ a.toInt < (2 ^ k : Nat)) (hb : 0 ≤ b.toInt ∧ b.toInt < (2 ^ k : Nat)) : 0 ≤ (a ^^^ b).toInt ∧ (a ^^^ b).toInt < (2 ^ k : Nat) := by
  have hp : 2 ^ k ≤ 2 ^ 31 := Nat.pow_le_pow_right (by decide) hk
  have key : ∀ z : Int32, (0 ≤ z.toInt ∧ z.toInt < (2 ^ k : Nat)) → z.toBitVec.toNat < 2 ^ k := fun z hz => by
    have q := BitVec.toInt_eq_toNat_cond z.toBitVec
    have e : z.toBitVec.toInt = z.toInt := rfl
    have := z.toBitVec.isLt
    split at q <;> omega
  have h1 := Nat.xor_lt_two_pow (key a ha) (key b hb)
  have e1 : (a ^^^ b).toBitVec.toNat = a.toBitVec.toNat ^^^ b.toBitVec.toNat := by rw [Int32.toBitVec_xor, BitVec.toNat_xor]
  rw [← e1] at h1
  have q := BitVec.toInt_eq_toNat_cond (a ^^^ b).toBitVec
  have e : (a ^^^ b).toBitVec.toInt = (a ^^^ b).toInt := rfl
  split at q <;> omega
theorem own_mx {v c0 : Int32} {y : Int64} (h : v = c0 ^^^ (y &&& (1 : Int64)).toInt32) (hc : M16 c0) : M16 v := by
  subst h
  have h1 := c_maskL y 1 1 (by decide) (by decide)
  have h0 := c_l2i (y &&& 1)
  have hr := rng32 (y &&& 1).toInt32
  have e : ((2 ^ 1 : Nat) : Int) = 2 := by decide
  rw [h1, e] at h0
  have hb : M16 (y &&& 1).toInt32 := by constructor <;> omega
  have e16 : ((2 ^ 16 : Nat) : Int) = 65536 := by decide
  have q := own_xorlt (a := c0) (b := (y &&& 1).toInt32) 16 (by decide) (by rw [e16]; exact hc) (by rw [e16]; exact hb)
  rw [e16] at q; exact q
theorem own_ccinj {a b : Int32} (ha : M16 a) (hb : M16 b) : cc a = cc b ↔ a = b := by
  constructor
  · intro q
    have h1 : ((cc a).toInt - a.toInt) % 65536 = 0 ∧ 0 ≤ (cc a).toInt ∧ (cc a).toInt < 65536 := c_i2c a
    have h2 : ((cc b).toInt - b.toInt) % 65536 = 0 ∧ 0 ≤ (cc b).toInt ∧ (cc b).toInt < 65536 := c_i2c b
    have q' := congrArg Int32.toInt q
    have := ha.1; have := ha.2; have := hb.1; have := hb.2
    apply Int32.toInt_inj.mp
    omega
  · rintro rfl; rfl
def sameP (lA lB c0 c1 d0 d1 : Int32) : Prop := lA = lB ∧ (lA < 1 ∨ c0 = d0) ∧ (lA < 2 ∨ c1 = d1)
theorem own_strL {lA lB c0 c1 d0 d1 : Int32} (h1 : lA = 0 ∨ lA = 1 ∨ lA = 2) (h2 : lB = 0 ∨ lB = 1 ∨ lB = 2) (a0 : M16 c0) (a1 : M16 c1) (b0 : M16 d0) (b1 : M16 d1) : strL lA c0 c1 = strL lB d0 d1 ↔ sameP lA lB c0 c1 d0 d1 := by
  have k0 := own_ccinj a0 b0
  have k1 := own_ccinj a1 b1
  have t01 : (0 : Int32) < 1 := by decide
  have t02 : (0 : Int32) < 2 := by decide
  have t11 : ¬ (1 : Int32) < 1 := by decide
  have t12 : (1 : Int32) < 2 := by decide
  have t21 : ¬ (2 : Int32) < 1 := by decide
  have t22 : ¬ (2 : Int32) < 2 := by decide
  simp only [strL, sameP]
  rcases h1 with rfl | rfl | rfl <;> rcases h2 with rfl | rfl | rfl <;> simp_all
theorem own_jeq1 {lA lB c0 c1 d0 d1 : Int32} (h1 : lA = 0 ∨ lA = 1 ∨ lA = 2) (h2 : lB = 0 ∨ lB = 1 ∨ lB = 2) (a0 : M16 c0) (a1 : M16 c1) (b0 : M16 d0) (b1 : M16 d1) (h : lA = lB ∧ (lA < 1 ∨ c0 = d0) ∧ (lA < 2 ∨ c1 = d1)) : f_jeq (strL lA c0 c1) (strL lB d0 d1) = 1 := by
  rw [f_jeq, if_pos ((own_strL h1 h2 a0 a1 b0 b1).mpr h)]; simp
theorem own_jeq0 {lA lB c0 c1 d0 d1 : Int32} (h1 : lA = 0 ∨ lA = 1 ∨ lA = 2) (h2 : lB = 0 ∨ lB = 1 ∨ lB = 2) (a0 : M16 c0) (a1 : M16 c1) (b0 : M16 d0) (b1 : M16 d1) (h : ¬ (lA = lB ∧ (lA < 1 ∨ c0 = d0) ∧ (lA < 2 ∨ c1 = d1))) : f_jeq (strL lA c0 c1) (strL lB d0 d1) = 0 := by
  rw [f_jeq, if_neg (mt (own_strL h1 h2 a0 a1 b0 b1).mp h)]; simp
theorem own_jeq1S {lA lB c0 c1 d0 d1 : Int32} (h1 : lA = 0 ∨ lA = 1 ∨ lA = 2) (h2 : lB = 0 ∨ lB = 1 ∨ lB = 2) (a0 : M16 c0) (a1 : M16 c1) (b0 : M16 d0) (b1 : M16 d1) (h : lA = lB ∧ (lA < 1 ∨ c0 = d0) ∧ (lA < 2 ∨ c1 = d1)) : f_jeq (strL lB d0 d1) (strL lA c0 c1) = 1 := by
  rw [f_jeq, if_pos ((own_strL h1 h2 a0 a1 b0 b1).mpr h).symm]; simp
theorem own_jeq0S {lA lB c0 c1 d0 d1 : Int32} (h1 : lA = 0 ∨ lA = 1 ∨ lA = 2) (h2 : lB = 0 ∨ lB = 1 ∨ lB = 2) (a0 : M16 c0) (a1 : M16 c1) (b0 : M16 d0) (b1 : M16 d1) (h : ¬ (lA = lB ∧ (lA < 1 ∨ c0 = d0) ∧ (lA < 2 ∨ c1 = d1))) : f_jeq (strL lB d0 d1) (strL lA c0 c1) = 0 := by
  rw [f_jeq, if_neg (show ¬ strL lB d0 d1 = strL lA c0 c1 from fun q => h ((own_strL h1 h2 a0 a1 b0 b1).mp q.symm))]; simp
def QLaw (n0 : Nat) (v : Option Value) (h : Heap) (L : List Loc) : Prop := v = some (.int 1) ∧ Fr n0 L
theorem pn_13 : plainFor x = true := by first | exact plainFor_of_name (by first | (simp [plainName, overriddenIn]; done) | decide +kernel) | decide +kernel
theorem ef_JJJI_22 (m : MethodId) (y0 : Int64) (y1 : Int64) (y2 : Int64) (y3 : Int32) : entryFrame m #[(.long y0), (.long y1), (.long y2), (.int y3)] 22 = mkF m 0 #[.val (.long y0), .second, .val (.long y1), .second, .val (.long y2), .second, .val (.int y3), .unset, .unset, .unset, .unset, .unset, .unset, .unset, .unset, .unset, .unset, .unset, .unset, .unset, .unset, .unset] [] := by first | (simp [entryFrame, mkF, argsToLocals, Value.category]; done) | rfl
set_option maxRecDepth 65536 in
set_option maxHeartbeats 40000000 in
theorem met_law (l : Launch) (Z : State) (a0 : Array Value) (hw : ∀ d ∈ tables_1, d.before a0 Z = true) (ws : List Jvm.Cond) (p0 p1 p2 : Int64) (p3 z : Int32) (n0 : Nat) (h0 : Heap) (O : Old Z n0 h0) (Sc : Stat Z z) (S16 : St16 Z) :
    MetFree l x (head1 (Jvm.Cond.code x code maxLocals ret :: ws) room_1) (fun aa U => aa = #[(.long p0), (.long p1), (.long p2), (.int p3)] ∧ Z.Warmed39 U.vm ∧ U.heap = h0 ∧ CHv Z EL0 U.vm h0) (fun _ _ _ _ _ => True) (fun _ U o U' => ∃ v L, o = .returned v ∧ QLaw n0 v U'.heap L ∧ CHr Z EL0 U.vm U.heap U'.vm U'.heap ∧ ReturnedEndW U o U' L room_1.cells room_1.slots) := by
  refine openH (y := x) pn_13 ?_
  intro p e s m below meth c T vm hx hby hml hret hlk hnm hZ hown X hT H
  have hEL := own_EW hw
  refine Go.st (fun _ k => castTop (ef_JJJI_22 m p0 p1 p2 p3) k) ?_
  show Go p e below _ (T.setTop (mkF m 0 #[.val (.long p0), .second, .val (.long p1), .second, .val (.long p2), .second, .val (.int p3), .unset, .unset, .unset, .unset, .unset, .unset, .unset, .unset, .unset, .unset, .unset, .unset, .unset, .unset, .unset] []))
  have N := Fr.nil n0
  refine Go.st (fun _ k => XS.lloadN X.here hx rfl (hb hby at_0) rfl k) ?_
  show Go p e below _ (T.setTop (mkF m 1 #[.val (.long p0), .second, .val (.long p1), .second, .val (.long p2), .second, .val (.int p3), .unset, .unset, .unset, .unset, .unset, .unset, .unset, .unset, .unset, .unset, .unset, .unset, .unset, .unset, .unset] [(.long p0)]))
  refine Go.st (fun _ k => X.ldc2J hx hown (mvT hZ (hw _ (List.mem_of_getElem? (i := 0) rfl))) rfl (hb hby at_1) k) ?_
  show Go p e below _ (T.setTop (mkF m 4 #[.val (.long p0), .second, .val (.long p1), .second, .val (.long p2), .second, .val (.int p3), .unset, .unset, .unset, .unset, .unset, .unset, .unset, .unset, .unset, .unset, .unset, .unset, .unset, .unset, .unset] [(.long (3 : Int64)), (.long p0)]))
  refine Go.st (fun _ k => XS.land X.here hx rfl (hb hby at_4) rfl k) ?_
  show Go p e below _ (T.setTop (mkF m 5 #[.val (.long p0), .second, .val (.long p1), .second, .val (.long p2), .second, .val (.int p3), .unset, .unset, .unset, .unset, .unset, .unset, .unset, .unset, .unset, .unset, .unset, .unset, .unset, .unset, .unset] [(.long (p0 &&& (3 : Int64)))]))
  refine Go.st (fun _ k => XS.l2i X.here hx rfl (hb hby at_5) rfl k) ?_
  show Go p e below _ (T.setTop (mkF m 6 #[.val (.long p0), .second, .val (.long p1), .second, .val (.long p2), .second, .val (.int p3), .unset, .unset, .unset, .unset, .unset, .unset, .unset, .unset, .unset, .unset, .unset, .unset, .unset, .unset, .unset] [(.int ((p0 &&& (3 : Int64)).toInt32))]))
  refine Go.st (fun _ k => XS.iconst X.here hx rfl (hb hby at_6) k) ?_
  show Go p e below _ (T.setTop (mkF m 7 #[.val (.long p0), .second, .val (.long p1), .second, .val (.long p2), .second, .val (.int p3), .unset, .unset, .unset, .unset, .unset, .unset, .unset, .unset, .unset, .unset, .unset, .unset, .unset, .unset, .unset] [(.int (3 : Int32)), (.int ((p0 &&& (3 : Int64)).toInt32))]))
  refine Go.st (fun _ k => iremM X hx rfl (hb hby at_7) rfl (by decide) k) ?_
  show Go p e below _ (T.setTop (mkF m 8 #[.val (.long p0), .second, .val (.long p1), .second, .val (.long p2), .second, .val (.int p3), .unset, .unset, .unset, .unset, .unset, .unset, .unset, .unset, .unset, .unset, .unset, .unset, .unset, .unset, .unset] [(.int (((p0 &&& (3 : Int64)).toInt32) % (3 : Int32)))]))
  obtain ⟨lA, hlA⟩ : ∃ z, z = (((p0 &&& (3 : Int64)).toInt32) % (3 : Int32)) := ⟨_, rfl⟩
  rw [← hlA]
  show Go p e below _ (T.setTop (mkF m 8 #[.val (.long p0), .second, .val (.long p1), .second, .val (.long p2), .second, .val (.int p3), .unset, .unset, .unset, .unset, .unset, .unset, .unset, .unset, .unset, .unset, .unset, .unset, .unset, .unset, .unset] [(.int lA)]))
  refine Go.st (fun _ k => XS.istore X.here hx rfl (hb hby at_8) rfl (l' := #[.val (.long p0), .second, .val (.long p1), .second, .val (.long p2), .second, .val (.int p3), .val (.int lA), .unset, .unset, .unset, .unset, .unset, .unset, .unset, .unset, .unset, .unset, .unset, .unset, .unset, .unset]) rfl k) ?_
  show Go p e below _ (T.setTop (mkF m 10 #[.val (.long p0), .second, .val (.long p1), .second, .val (.long p2), .second, .val (.int p3), .val (.int lA), .unset, .unset, .unset, .unset, .unset, .unset, .unset, .unset, .unset, .unset, .unset, .unset, .unset, .unset] []))
  refine Go.st (fun _ k => XS.lloadN X.here hx rfl (hb hby at_10) rfl k) ?_
  show Go p e below _ (T.setTop (mkF m 11 #[.val (.long p0), .second, .val (.long p1), .second, .val (.long p2), .second, .val (.int p3), .val (.int lA), .unset, .unset, .unset, .unset, .unset, .unset, .unset, .unset, .unset, .unset, .unset, .unset, .unset, .unset] [(.long p0)]))
  refine Go.st (fun _ k => XS.iconst X.here hx rfl (hb hby at_11) k) ?_
  show Go p e below _ (T.setTop (mkF m 12 #[.val (.long p0), .second, .val (.long p1), .second, .val (.long p2), .second, .val (.int p3), .val (.int lA), .unset, .unset, .unset, .unset, .unset, .unset, .unset, .unset, .unset, .unset, .unset, .unset, .unset, .unset] [(.int (2 : Int32)), (.long p0)]))
  refine Go.st (fun _ k => XS.lushr X.here hx rfl (hb hby at_12) rfl k) ?_
  show Go p e below _ (T.setTop (mkF m 13 #[.val (.long p0), .second, .val (.long p1), .second, .val (.long p2), .second, .val (.int p3), .val (.int lA), .unset, .unset, .unset, .unset, .unset, .unset, .unset, .unset, .unset, .unset, .unset, .unset, .unset, .unset] [(.long (((p0).toUInt64 >>> ((2 : Int32) &&& 0x3f).toInt64.toUInt64).toInt64))]))
  refine Go.st (fun _ k => X.ldc2J hx hown (mvT hZ (hw _ (List.mem_of_getElem? (i := 1) rfl))) rfl (hb hby at_13) k) ?_
  show Go p e below _ (T.setTop (mkF m 16 #[.val (.long p0), .second, .val (.long p1), .second, .val (.long p2), .second, .val (.int p3), .val (.int lA), .unset, .unset, .unset, .unset, .unset, .unset, .unset, .unset, .unset, .unset, .unset, .unset, .unset, .unset] [(.long (65535 : Int64)), (.long (((p0).toUInt64 >>> ((2 : Int32) &&& 0x3f).toInt64.toUInt64).toInt64))]))
  refine Go.st (fun _ k => XS.land X.here hx rfl (hb hby at_16) rfl k) ?_
  show Go p e below _ (T.setTop (mkF m 17 #[.val (.long p0), .second, .val (.long p1), .second, .val (.long p2), .second, .val (.int p3), .val (.int lA), .unset, .unset, .unset, .unset, .unset, .unset, .unset, .unset, .unset, .unset, .unset, .unset, .unset, .unset] [(.long ((((p0).toUInt64 >>> ((2 : Int32) &&& 0x3f).toInt64.toUInt64).toInt64) &&& (65535 : Int64)))]))
  refine Go.st (fun _ k => XS.l2i X.here hx rfl (hb hby at_17) rfl k) ?_
  show Go p e below _ (T.setTop (mkF m 18 #[.val (.long p0), .second, .val (.long p1), .second, .val (.long p2), .second, .val (.int p3), .val (.int lA), .unset, .unset, .unset, .unset, .unset, .unset, .unset, .unset, .unset, .unset, .unset, .unset, .unset, .unset] [(.int (((((p0).toUInt64 >>> ((2 : Int32) &&& 0x3f).toInt64.toUInt64).toInt64) &&& (65535 : Int64)).toInt32))]))
  obtain ⟨ca, hca⟩ : ∃ z, z = (((((p0).toUInt64 >>> ((2 : Int32) &&& 0x3f).toInt64.toUInt64).toInt64) &&& (65535 : Int64)).toInt32) := ⟨_, rfl⟩
  rw [← hca]
  show Go p e below _ (T.setTop (mkF m 18 #[.val (.long p0), .second, .val (.long p1), .second, .val (.long p2), .second, .val (.int p3), .val (.int lA), .unset, .unset, .unset, .unset, .unset, .unset, .unset, .unset, .unset, .unset, .unset, .unset, .unset, .unset] [(.int ca)]))
  refine Go.st (fun _ k => XS.istore X.here hx rfl (hb hby at_18) rfl (l' := #[.val (.long p0), .second, .val (.long p1), .second, .val (.long p2), .second, .val (.int p3), .val (.int lA), .val (.int ca), .unset, .unset, .unset, .unset, .unset, .unset, .unset, .unset, .unset, .unset, .unset, .unset, .unset]) rfl k) ?_
  show Go p e below _ (T.setTop (mkF m 20 #[.val (.long p0), .second, .val (.long p1), .second, .val (.long p2), .second, .val (.int p3), .val (.int lA), .val (.int ca), .unset, .unset, .unset, .unset, .unset, .unset, .unset, .unset, .unset, .unset, .unset, .unset, .unset] []))
  refine Go.st (fun _ k => XS.lloadN X.here hx rfl (hb hby at_20) rfl k) ?_
  show Go p e below _ (T.setTop (mkF m 21 #[.val (.long p0), .second, .val (.long p1), .second, .val (.long p2), .second, .val (.int p3), .val (.int lA), .val (.int ca), .unset, .unset, .unset, .unset, .unset, .unset, .unset, .unset, .unset, .unset, .unset, .unset, .unset] [(.long p0)]))
  refine Go.st (fun _ k => XS.bipush X.here hx rfl (hb hby at_21) k) ?_
  show Go p e below _ (T.setTop (mkF m 23 #[.val (.long p0), .second, .val (.long p1), .second, .val (.long p2), .second, .val (.int p3), .val (.int lA), .val (.int ca), .unset, .unset, .unset, .unset, .unset, .unset, .unset, .unset, .unset, .unset, .unset, .unset, .unset] [(.int (18 : Int32)), (.long p0)]))
  refine Go.st (fun _ k => XS.lushr X.here hx rfl (hb hby at_23) rfl k) ?_
  show Go p e below _ (T.setTop (mkF m 24 #[.val (.long p0), .second, .val (.long p1), .second, .val (.long p2), .second, .val (.int p3), .val (.int lA), .val (.int ca), .unset, .unset, .unset, .unset, .unset, .unset, .unset, .unset, .unset, .unset, .unset, .unset, .unset] [(.long (((p0).toUInt64 >>> ((18 : Int32) &&& 0x3f).toInt64.toUInt64).toInt64))]))
  refine Go.st (fun _ k => X.ldc2J hx hown (mvT hZ (hw _ (List.mem_of_getElem? (i := 1) rfl))) rfl (hb hby at_24) k) ?_
  show Go p e below _ (T.setTop (mkF m 27 #[.val (.long p0), .second, .val (.long p1), .second, .val (.long p2), .second, .val (.int p3), .val (.int lA), .val (.int ca), .unset, .unset, .unset, .unset, .unset, .unset, .unset, .unset, .unset, .unset, .unset, .unset, .unset] [(.long (65535 : Int64)), (.long (((p0).toUInt64 >>> ((18 : Int32) &&& 0x3f).toInt64.toUInt64).toInt64))]))
  refine Go.st (fun _ k => XS.land X.here hx rfl (hb hby at_27) rfl k) ?_
  show Go p e below _ (T.setTop (mkF m 28 #[.val (.long p0), .second, .val (.long p1), .second, .val (.long p2), .second, .val (.int p3), .val (.int lA), .val (.int ca), .unset, .unset, .unset, .unset, .unset, .unset, .unset, .unset, .unset, .unset, .unset, .unset, .unset] [(.long ((((p0).toUInt64 >>> ((18 : Int32) &&& 0x3f).toInt64.toUInt64).toInt64) &&& (65535 : Int64)))]))
  refine Go.st (fun _ k => XS.l2i X.here hx rfl (hb hby at_28) rfl k) ?_
  show Go p e below _ (T.setTop (mkF m 29 #[.val (.long p0), .second, .val (.long p1), .second, .val (.long p2), .second, .val (.int p3), .val (.int lA), .val (.int ca), .unset, .unset, .unset, .unset, .unset, .unset, .unset, .unset, .unset, .unset, .unset, .unset, .unset] [(.int (((((p0).toUInt64 >>> ((18 : Int32) &&& 0x3f).toInt64.toUInt64).toInt64) &&& (65535 : Int64)).toInt32))]))
  obtain ⟨cb, hcb⟩ : ∃ z, z = (((((p0).toUInt64 >>> ((18 : Int32) &&& 0x3f).toInt64.toUInt64).toInt64) &&& (65535 : Int64)).toInt32) := ⟨_, rfl⟩
  rw [← hcb]
  show Go p e below _ (T.setTop (mkF m 29 #[.val (.long p0), .second, .val (.long p1), .second, .val (.long p2), .second, .val (.int p3), .val (.int lA), .val (.int ca), .unset, .unset, .unset, .unset, .unset, .unset, .unset, .unset, .unset, .unset, .unset, .unset, .unset] [(.int cb)]))
  refine Go.st (fun _ k => XS.istore X.here hx rfl (hb hby at_29) rfl (l' := #[.val (.long p0), .second, .val (.long p1), .second, .val (.long p2), .second, .val (.int p3), .val (.int lA), .val (.int ca), .val (.int cb), .unset, .unset, .unset, .unset, .unset, .unset, .unset, .unset, .unset, .unset, .unset, .unset]) rfl k) ?_
  show Go p e below _ (T.setTop (mkF m 31 #[.val (.long p0), .second, .val (.long p1), .second, .val (.long p2), .second, .val (.int p3), .val (.int lA), .val (.int ca), .val (.int cb), .unset, .unset, .unset, .unset, .unset, .unset, .unset, .unset, .unset, .unset, .unset, .unset] []))
  refine Go.st (fun _ k => XS.lloadN X.here hx rfl (hb hby at_31) rfl k) ?_
  show Go p e below _ (T.setTop (mkF m 32 #[.val (.long p0), .second, .val (.long p1), .second, .val (.long p2), .second, .val (.int p3), .val (.int lA), .val (.int ca), .val (.int cb), .unset, .unset, .unset, .unset, .unset, .unset, .unset, .unset, .unset, .unset, .unset, .unset] [(.long p1)]))
  refine Go.st (fun _ k => X.ldc2J hx hown (mvT hZ (hw _ (List.mem_of_getElem? (i := 0) rfl))) rfl (hb hby at_32) k) ?_
  show Go p e below _ (T.setTop (mkF m 35 #[.val (.long p0), .second, .val (.long p1), .second, .val (.long p2), .second, .val (.int p3), .val (.int lA), .val (.int ca), .val (.int cb), .unset, .unset, .unset, .unset, .unset, .unset, .unset, .unset, .unset, .unset, .unset, .unset] [(.long (3 : Int64)), (.long p1)]))
  refine Go.st (fun _ k => XS.land X.here hx rfl (hb hby at_35) rfl k) ?_
  show Go p e below _ (T.setTop (mkF m 36 #[.val (.long p0), .second, .val (.long p1), .second, .val (.long p2), .second, .val (.int p3), .val (.int lA), .val (.int ca), .val (.int cb), .unset, .unset, .unset, .unset, .unset, .unset, .unset, .unset, .unset, .unset, .unset, .unset] [(.long (p1 &&& (3 : Int64)))]))
  refine Go.st (fun _ k => XS.l2i X.here hx rfl (hb hby at_36) rfl k) ?_
  show Go p e below _ (T.setTop (mkF m 37 #[.val (.long p0), .second, .val (.long p1), .second, .val (.long p2), .second, .val (.int p3), .val (.int lA), .val (.int ca), .val (.int cb), .unset, .unset, .unset, .unset, .unset, .unset, .unset, .unset, .unset, .unset, .unset, .unset] [(.int ((p1 &&& (3 : Int64)).toInt32))]))
  refine Go.st (fun _ k => XS.iconst X.here hx rfl (hb hby at_37) k) ?_
  show Go p e below _ (T.setTop (mkF m 38 #[.val (.long p0), .second, .val (.long p1), .second, .val (.long p2), .second, .val (.int p3), .val (.int lA), .val (.int ca), .val (.int cb), .unset, .unset, .unset, .unset, .unset, .unset, .unset, .unset, .unset, .unset, .unset, .unset] [(.int (3 : Int32)), (.int ((p1 &&& (3 : Int64)).toInt32))]))
  refine Go.st (fun _ k => iremM X hx rfl (hb hby at_38) rfl (by decide) k) ?_
  show Go p e below _ (T.setTop (mkF m 39 #[.val (.long p0), .second, .val (.long p1), .second, .val (.long p2), .second, .val (.int p3), .val (.int lA), .val (.int ca), .val (.int cb), .unset, .unset, .unset, .unset, .unset, .unset, .unset, .unset, .unset, .unset, .unset, .unset] [(.int (((p1 &&& (3 : Int64)).toInt32) % (3 : Int32)))]))
  obtain ⟨lB, hlB⟩ : ∃ z, z = (((p1 &&& (3 : Int64)).toInt32) % (3 : Int32)) := ⟨_, rfl⟩
  rw [← hlB]
  show Go p e below _ (T.setTop (mkF m 39 #[.val (.long p0), .second, .val (.long p1), .second, .val (.long p2), .second, .val (.int p3), .val (.int lA), .val (.int ca), .val (.int cb), .unset, .unset, .unset, .unset, .unset, .unset, .unset, .unset, .unset, .unset, .unset, .unset] [(.int lB)]))
  refine Go.st (fun _ k => XS.istore X.here hx rfl (hb hby at_39) rfl (l' := #[.val (.long p0), .second, .val (.long p1), .second, .val (.long p2), .second, .val (.int p3), .val (.int lA), .val (.int ca), .val (.int cb), .val (.int lB), .unset, .unset, .unset, .unset, .unset, .unset, .unset, .unset, .unset, .unset, .unset]) rfl k) ?_
  show Go p e below _ (T.setTop (mkF m 41 #[.val (.long p0), .second, .val (.long p1), .second, .val (.long p2), .second, .val (.int p3), .val (.int lA), .val (.int ca), .val (.int cb), .val (.int lB), .unset, .unset, .unset, .unset, .unset, .unset, .unset, .unset, .unset, .unset, .unset] []))
  refine Go.st (fun _ k => XS.iload X.here hx rfl (hb hby at_41) rfl k) ?_
  show Go p e below _ (T.setTop (mkF m 43 #[.val (.long p0), .second, .val (.long p1), .second, .val (.long p2), .second, .val (.int p3), .val (.int lA), .val (.int ca), .val (.int cb), .val (.int lB), .unset, .unset, .unset, .unset, .unset, .unset, .unset, .unset, .unset, .unset, .unset] [(.int p3)]))
  refine Go.st (fun _ k => XS.iconst X.here hx rfl (hb hby at_43) k) ?_
  show Go p e below _ (T.setTop (mkF m 44 #[.val (.long p0), .second, .val (.long p1), .second, .val (.long p2), .second, .val (.int p3), .val (.int lA), .val (.int ca), .val (.int cb), .val (.int lB), .unset, .unset, .unset, .unset, .unset, .unset, .unset, .unset, .unset, .unset, .unset] [(.int (1 : Int32)), (.int p3)]))
  refine Go.st (fun _ k => XS.iand X.here hx rfl (hb hby at_44) rfl k) ?_
  show Go p e below _ (T.setTop (mkF m 45 #[.val (.long p0), .second, .val (.long p1), .second, .val (.long p2), .second, .val (.int p3), .val (.int lA), .val (.int ca), .val (.int cb), .val (.int lB), .unset, .unset, .unset, .unset, .unset, .unset, .unset, .unset, .unset, .unset, .unset] [(.int (p3 &&& (1 : Int32)))]))
  by_cases hc1 : (p3 &&& (1 : Int32)) = (0 : Int32)
  · refine Go.st (fun _ k => XS.ifYes X.here hx rfl (pc0 := 45) (pc' := 52) rfl (hb hby at_45) rfl (Jvm.Free.XT.i0_eq_t hc1) (by decide) (by decide) k) ?_
    show Go p e below _ (T.setTop (mkF m 52 #[.val (.long p0), .second, .val (.long p1), .second, .val (.long p2), .second, .val (.int p3), .val (.int lA), .val (.int ca), .val (.int cb), .val (.int lB), .unset, .unset, .unset, .unset, .unset, .unset, .unset, .unset, .unset, .unset, .unset] []))
    refine Go.st (fun _ k => XS.iconst X.here hx rfl (hb hby at_52) k) ?_
    show Go p e below _ (T.setTop (mkF m 53 #[.val (.long p0), .second, .val (.long p1), .second, .val (.long p2), .second, .val (.int p3), .val (.int lA), .val (.int ca), .val (.int cb), .val (.int lB), .unset, .unset, .unset, .unset, .unset, .unset, .unset, .unset, .unset, .unset, .unset] [(.int (0 : Int32))]))
    refine Go.st (fun _ k => XS.istore X.here hx rfl (hb hby at_53) rfl (l' := #[.val (.long p0), .second, .val (.long p1), .second, .val (.long p2), .second, .val (.int p3), .val (.int lA), .val (.int ca), .val (.int cb), .val (.int lB), .val (.int (0 : Int32)), .unset, .unset, .unset, .unset, .unset, .unset, .unset, .unset, .unset, .unset]) rfl k) ?_
    show Go p e below _ (T.setTop (mkF m 55 #[.val (.long p0), .second, .val (.long p1), .second, .val (.long p2), .second, .val (.int p3), .val (.int lA), .val (.int ca), .val (.int cb), .val (.int lB), .val (.int (0 : Int32)), .unset, .unset, .unset, .unset, .unset, .unset, .unset, .unset, .unset, .unset] []))
    refine Go.st (fun _ k => XS.iload X.here hx rfl (hb hby at_55) rfl k) ?_
    show Go p e below _ (T.setTop (mkF m 57 #[.val (.long p0), .second, .val (.long p1), .second, .val (.long p2), .second, .val (.int p3), .val (.int lA), .val (.int ca), .val (.int cb), .val (.int lB), .val (.int (0 : Int32)), .unset, .unset, .unset, .unset, .unset, .unset, .unset, .unset, .unset, .unset] [(.int (0 : Int32))]))
    refine Go.st (fun _ k => XS.ifYes X.here hx rfl (pc0 := 57) (pc' := 85) rfl (hb hby at_57) rfl (Jvm.Free.XT.i0_eq_t (by decide : (0 : Int32) = (0 : Int32))) (by decide) (by decide) k) ?_
    show Go p e below _ (T.setTop (mkF m 85 #[.val (.long p0), .second, .val (.long p1), .second, .val (.long p2), .second, .val (.int p3), .val (.int lA), .val (.int ca), .val (.int cb), .val (.int lB), .val (.int (0 : Int32)), .unset, .unset, .unset, .unset, .unset, .unset, .unset, .unset, .unset, .unset] []))
    refine Go.st (fun _ k => XS.lloadN X.here hx rfl (hb hby at_85) rfl k) ?_
    show Go p e below _ (T.setTop (mkF m 86 #[.val (.long p0), .second, .val (.long p1), .second, .val (.long p2), .second, .val (.int p3), .val (.int lA), .val (.int ca), .val (.int cb), .val (.int lB), .val (.int (0 : Int32)), .unset, .unset, .unset, .unset, .unset, .unset, .unset, .unset, .unset, .unset] [(.long p1)]))
    refine Go.st (fun _ k => XS.iconst X.here hx rfl (hb hby at_86) k) ?_
    show Go p e below _ (T.setTop (mkF m 87 #[.val (.long p0), .second, .val (.long p1), .second, .val (.long p2), .second, .val (.int p3), .val (.int lA), .val (.int ca), .val (.int cb), .val (.int lB), .val (.int (0 : Int32)), .unset, .unset, .unset, .unset, .unset, .unset, .unset, .unset, .unset, .unset] [(.int (2 : Int32)), (.long p1)]))
    refine Go.st (fun _ k => XS.lushr X.here hx rfl (hb hby at_87) rfl k) ?_
    show Go p e below _ (T.setTop (mkF m 88 #[.val (.long p0), .second, .val (.long p1), .second, .val (.long p2), .second, .val (.int p3), .val (.int lA), .val (.int ca), .val (.int cb), .val (.int lB), .val (.int (0 : Int32)), .unset, .unset, .unset, .unset, .unset, .unset, .unset, .unset, .unset, .unset] [(.long (((p1).toUInt64 >>> ((2 : Int32) &&& 0x3f).toInt64.toUInt64).toInt64))]))
    refine Go.st (fun _ k => X.ldc2J hx hown (mvT hZ (hw _ (List.mem_of_getElem? (i := 1) rfl))) rfl (hb hby at_88) k) ?_
    show Go p e below _ (T.setTop (mkF m 91 #[.val (.long p0), .second, .val (.long p1), .second, .val (.long p2), .second, .val (.int p3), .val (.int lA), .val (.int ca), .val (.int cb), .val (.int lB), .val (.int (0 : Int32)), .unset, .unset, .unset, .unset, .unset, .unset, .unset, .unset, .unset, .unset] [(.long (65535 : Int64)), (.long (((p1).toUInt64 >>> ((2 : Int32) &&& 0x3f).toInt64.toUInt64).toInt64))]))
    refine Go.st (fun _ k => XS.land X.here hx rfl (hb hby at_91) rfl k) ?_
    show Go p e below _ (T.setTop (mkF m 92 #[.val (.long p0), .second, .val (.long p1), .second, .val (.long p2), .second, .val (.int p3), .val (.int lA), .val (.int ca), .val (.int cb), .val (.int lB), .val (.int (0 : Int32)), .unset, .unset, .unset, .unset, .unset, .unset, .unset, .unset, .unset, .unset] [(.long ((((p1).toUInt64 >>> ((2 : Int32) &&& 0x3f).toInt64.toUInt64).toInt64) &&& (65535 : Int64)))]))
    refine Go.st (fun _ k => XS.l2i X.here hx rfl (hb hby at_92) rfl k) ?_
    show Go p e below _ (T.setTop (mkF m 93 #[.val (.long p0), .second, .val (.long p1), .second, .val (.long p2), .second, .val (.int p3), .val (.int lA), .val (.int ca), .val (.int cb), .val (.int lB), .val (.int (0 : Int32)), .unset, .unset, .unset, .unset, .unset, .unset, .unset, .unset, .unset, .unset] [(.int (((((p1).toUInt64 >>> ((2 : Int32) &&& 0x3f).toInt64.toUInt64).toInt64) &&& (65535 : Int64)).toInt32))]))
    obtain ⟨da, hda⟩ : ∃ z, z = (((((p1).toUInt64 >>> ((2 : Int32) &&& 0x3f).toInt64.toUInt64).toInt64) &&& (65535 : Int64)).toInt32) := ⟨_, rfl⟩
    rw [← hda]
    show Go p e below _ (T.setTop (mkF m 93 #[.val (.long p0), .second, .val (.long p1), .second, .val (.long p2), .second, .val (.int p3), .val (.int lA), .val (.int ca), .val (.int cb), .val (.int lB), .val (.int (0 : Int32)), .unset, .unset, .unset, .unset, .unset, .unset, .unset, .unset, .unset, .unset] [(.int da)]))
    refine Go.st (fun _ k => XS.istore X.here hx rfl (hb hby at_93) rfl (l' := #[.val (.long p0), .second, .val (.long p1), .second, .val (.long p2), .second, .val (.int p3), .val (.int lA), .val (.int ca), .val (.int cb), .val (.int lB), .val (.int (0 : Int32)), .val (.int da), .unset, .unset, .unset, .unset, .unset, .unset, .unset, .unset, .unset]) rfl k) ?_
    show Go p e below _ (T.setTop (mkF m 95 #[.val (.long p0), .second, .val (.long p1), .second, .val (.long p2), .second, .val (.int p3), .val (.int lA), .val (.int ca), .val (.int cb), .val (.int lB), .val (.int (0 : Int32)), .val (.int da), .unset, .unset, .unset, .unset, .unset, .unset, .unset, .unset, .unset] []))
    refine Go.st (fun _ k => XS.lloadN X.here hx rfl (hb hby at_95) rfl k) ?_
    show Go p e below _ (T.setTop (mkF m 96 #[.val (.long p0), .second, .val (.long p1), .second, .val (.long p2), .second, .val (.int p3), .val (.int lA), .val (.int ca), .val (.int cb), .val (.int lB), .val (.int (0 : Int32)), .val (.int da), .unset, .unset, .unset, .unset, .unset, .unset, .unset, .unset, .unset] [(.long p1)]))
    refine Go.st (fun _ k => XS.bipush X.here hx rfl (hb hby at_96) k) ?_
    show Go p e below _ (T.setTop (mkF m 98 #[.val (.long p0), .second, .val (.long p1), .second, .val (.long p2), .second, .val (.int p3), .val (.int lA), .val (.int ca), .val (.int cb), .val (.int lB), .val (.int (0 : Int32)), .val (.int da), .unset, .unset, .unset, .unset, .unset, .unset, .unset, .unset, .unset] [(.int (18 : Int32)), (.long p1)]))
    refine Go.st (fun _ k => XS.lushr X.here hx rfl (hb hby at_98) rfl k) ?_
    show Go p e below _ (T.setTop (mkF m 99 #[.val (.long p0), .second, .val (.long p1), .second, .val (.long p2), .second, .val (.int p3), .val (.int lA), .val (.int ca), .val (.int cb), .val (.int lB), .val (.int (0 : Int32)), .val (.int da), .unset, .unset, .unset, .unset, .unset, .unset, .unset, .unset, .unset] [(.long (((p1).toUInt64 >>> ((18 : Int32) &&& 0x3f).toInt64.toUInt64).toInt64))]))
    refine Go.st (fun _ k => X.ldc2J hx hown (mvT hZ (hw _ (List.mem_of_getElem? (i := 1) rfl))) rfl (hb hby at_99) k) ?_
    show Go p e below _ (T.setTop (mkF m 102 #[.val (.long p0), .second, .val (.long p1), .second, .val (.long p2), .second, .val (.int p3), .val (.int lA), .val (.int ca), .val (.int cb), .val (.int lB), .val (.int (0 : Int32)), .val (.int da), .unset, .unset, .unset, .unset, .unset, .unset, .unset, .unset, .unset] [(.long (65535 : Int64)), (.long (((p1).toUInt64 >>> ((18 : Int32) &&& 0x3f).toInt64.toUInt64).toInt64))]))
    refine Go.st (fun _ k => XS.land X.here hx rfl (hb hby at_102) rfl k) ?_
    show Go p e below _ (T.setTop (mkF m 103 #[.val (.long p0), .second, .val (.long p1), .second, .val (.long p2), .second, .val (.int p3), .val (.int lA), .val (.int ca), .val (.int cb), .val (.int lB), .val (.int (0 : Int32)), .val (.int da), .unset, .unset, .unset, .unset, .unset, .unset, .unset, .unset, .unset] [(.long ((((p1).toUInt64 >>> ((18 : Int32) &&& 0x3f).toInt64.toUInt64).toInt64) &&& (65535 : Int64)))]))
    refine Go.st (fun _ k => XS.l2i X.here hx rfl (hb hby at_103) rfl k) ?_
    show Go p e below _ (T.setTop (mkF m 104 #[.val (.long p0), .second, .val (.long p1), .second, .val (.long p2), .second, .val (.int p3), .val (.int lA), .val (.int ca), .val (.int cb), .val (.int lB), .val (.int (0 : Int32)), .val (.int da), .unset, .unset, .unset, .unset, .unset, .unset, .unset, .unset, .unset] [(.int (((((p1).toUInt64 >>> ((18 : Int32) &&& 0x3f).toInt64.toUInt64).toInt64) &&& (65535 : Int64)).toInt32))]))
    obtain ⟨db, hdb⟩ : ∃ z, z = (((((p1).toUInt64 >>> ((18 : Int32) &&& 0x3f).toInt64.toUInt64).toInt64) &&& (65535 : Int64)).toInt32) := ⟨_, rfl⟩
    rw [← hdb]
    show Go p e below _ (T.setTop (mkF m 104 #[.val (.long p0), .second, .val (.long p1), .second, .val (.long p2), .second, .val (.int p3), .val (.int lA), .val (.int ca), .val (.int cb), .val (.int lB), .val (.int (0 : Int32)), .val (.int da), .unset, .unset, .unset, .unset, .unset, .unset, .unset, .unset, .unset] [(.int db)]))
    refine Go.st (fun _ k => XS.istore X.here hx rfl (hb hby at_104) rfl (l' := #[.val (.long p0), .second, .val (.long p1), .second, .val (.long p2), .second, .val (.int p3), .val (.int lA), .val (.int ca), .val (.int cb), .val (.int lB), .val (.int (0 : Int32)), .val (.int da), .val (.int db), .unset, .unset, .unset, .unset, .unset, .unset, .unset, .unset]) rfl k) ?_
    show Go p e below _ (T.setTop (mkF m 106 #[.val (.long p0), .second, .val (.long p1), .second, .val (.long p2), .second, .val (.int p3), .val (.int lA), .val (.int ca), .val (.int cb), .val (.int lB), .val (.int (0 : Int32)), .val (.int da), .val (.int db), .unset, .unset, .unset, .unset, .unset, .unset, .unset, .unset] []))
    refine Go.st (fun _ k => XS.iload X.here hx rfl (hb hby at_106) rfl k) ?_
    show Go p e below _ (T.setTop (mkF m 108 #[.val (.long p0), .second, .val (.long p1), .second, .val (.long p2), .second, .val (.int p3), .val (.int lA), .val (.int ca), .val (.int cb), .val (.int lB), .val (.int (0 : Int32)), .val (.int da), .val (.int db), .unset, .unset, .unset, .unset, .unset, .unset, .unset, .unset] [(.int lA)]))
    refine Go.st (fun _ k => XS.iload X.here hx rfl (hb hby at_108) rfl k) ?_
    show Go p e below _ (T.setTop (mkF m 110 #[.val (.long p0), .second, .val (.long p1), .second, .val (.long p2), .second, .val (.int p3), .val (.int lA), .val (.int ca), .val (.int cb), .val (.int lB), .val (.int (0 : Int32)), .val (.int da), .val (.int db), .unset, .unset, .unset, .unset, .unset, .unset, .unset, .unset] [(.int ca), (.int lA)]))
    refine Go.st (fun _ k => XS.iload X.here hx rfl (hb hby at_110) rfl k) ?_
    show Go p e below _ (T.setTop (mkF m 112 #[.val (.long p0), .second, .val (.long p1), .second, .val (.long p2), .second, .val (.int p3), .val (.int lA), .val (.int ca), .val (.int cb), .val (.int lB), .val (.int (0 : Int32)), .val (.int da), .val (.int db), .unset, .unset, .unset, .unset, .unset, .unset, .unset, .unset] [(.int cb), (.int ca), (.int lA)]))
    refine Go.callH (argsL := [(.int lA), (.int ca), (.int cb)]) (rest := []) (W := 0) (ck := 6) (sk := 14) H X hx hZ hown (hml.trans rfl) hT (hw _ (List.mem_of_getElem? (i := 2) rfl)) (hw _ (List.mem_of_getElem? (i := 3) rfl)) (hw _ (List.mem_of_getElem? (i := 4) rfl)) (hw _ (List.mem_of_getElem? (i := 5) rfl)) (by decide) pd_10 rfl rfl (Nat.le_of_ble_eq_true rfl) (hb hby at_112) (backOfSH (W := 0) (met_str l Z a0 hw [] lA ca cb z n0 h0 O Sc S16) hZ (hw _ (List.mem_of_getElem? (i := 5) rfl)) (hw _ (List.mem_of_getElem? (i := 4) rfl)) (by decide) (by decide) hEL H.2.1) (by decide) (by decide) ?_
    intro v T h1 L vm hT hQ hZ hown H Rc X
    obtain ⟨o2, rfl, N0, Ex0, S_o2⟩ := hQ
    have N := Fr.app N N0
    have KB := (Keep.refl h0 []).ext Ex0
    have O := O.keep KB all0
    show Go p e below _ (T.setTop (mkF m 115 #[.val (.long p0), .second, .val (.long p1), .second, .val (.long p2), .second, .val (.int p3), .val (.int lA), .val (.int ca), .val (.int cb), .val (.int lB), .val (.int (0 : Int32)), .val (.int da), .val (.int db), .unset, .unset, .unset, .unset, .unset, .unset, .unset, .unset] [(.ref o2)]))
    refine Go.st (fun _ k => XS.astore X.here hx rfl (hb hby at_115) rfl rfl (l' := #[.val (.long p0), .second, .val (.long p1), .second, .val (.long p2), .second, .val (.int p3), .val (.int lA), .val (.int ca), .val (.int cb), .val (.int lB), .val (.int (0 : Int32)), .val (.int da), .val (.int db), .val (.ref o2), .unset, .unset, .unset, .unset, .unset, .unset, .unset]) rfl k) ?_
    show Go p e below _ (T.setTop (mkF m 117 #[.val (.long p0), .second, .val (.long p1), .second, .val (.long p2), .second, .val (.int p3), .val (.int lA), .val (.int ca), .val (.int cb), .val (.int lB), .val (.int (0 : Int32)), .val (.int da), .val (.int db), .val (.ref o2), .unset, .unset, .unset, .unset, .unset, .unset, .unset] []))
    refine Go.st (fun _ k => XS.iload X.here hx rfl (hb hby at_117) rfl k) ?_
    show Go p e below _ (T.setTop (mkF m 119 #[.val (.long p0), .second, .val (.long p1), .second, .val (.long p2), .second, .val (.int p3), .val (.int lA), .val (.int ca), .val (.int cb), .val (.int lB), .val (.int (0 : Int32)), .val (.int da), .val (.int db), .val (.ref o2), .unset, .unset, .unset, .unset, .unset, .unset, .unset] [(.int lB)]))
    refine Go.st (fun _ k => XS.iload X.here hx rfl (hb hby at_119) rfl k) ?_
    show Go p e below _ (T.setTop (mkF m 121 #[.val (.long p0), .second, .val (.long p1), .second, .val (.long p2), .second, .val (.int p3), .val (.int lA), .val (.int ca), .val (.int cb), .val (.int lB), .val (.int (0 : Int32)), .val (.int da), .val (.int db), .val (.ref o2), .unset, .unset, .unset, .unset, .unset, .unset, .unset] [(.int da), (.int lB)]))
    refine Go.st (fun _ k => XS.iload X.here hx rfl (hb hby at_121) rfl k) ?_
    show Go p e below _ (T.setTop (mkF m 123 #[.val (.long p0), .second, .val (.long p1), .second, .val (.long p2), .second, .val (.int p3), .val (.int lA), .val (.int ca), .val (.int cb), .val (.int lB), .val (.int (0 : Int32)), .val (.int da), .val (.int db), .val (.ref o2), .unset, .unset, .unset, .unset, .unset, .unset, .unset] [(.int db), (.int da), (.int lB)]))
    refine Go.callH (argsL := [(.int lB), (.int da), (.int db)]) (rest := []) (W := 0) (ck := 6) (sk := 14) H X hx hZ hown (hml.trans rfl) hT (hw _ (List.mem_of_getElem? (i := 2) rfl)) (hw _ (List.mem_of_getElem? (i := 3) rfl)) (hw _ (List.mem_of_getElem? (i := 4) rfl)) (hw _ (List.mem_of_getElem? (i := 5) rfl)) (by decide) pd_10 rfl rfl (Nat.le_of_ble_eq_true rfl) (hb hby at_123) (backOfSH (W := 0) (met_str l Z a0 hw [] lB da db z n0 h1 O Sc S16) hZ (hw _ (List.mem_of_getElem? (i := 5) rfl)) (hw _ (List.mem_of_getElem? (i := 4) rfl)) (by decide) (by decide) hEL H.2.1) (by decide) (by decide) ?_
    intro v T h2 L vm hT hQ hZ hown H Rc X
    obtain ⟨o3, rfl, N0, Ex0, S_o3⟩ := hQ
    have N := Fr.app N N0
    have KB := (Keep.refl h1 []).ext Ex0
    have O := O.keep KB all0
    have S_o2 := S_o2.ext (keepE KB)
    show Go p e below _ (T.setTop (mkF m 126 #[.val (.long p0), .second, .val (.long p1), .second, .val (.long p2), .second, .val (.int p3), .val (.int lA), .val (.int ca), .val (.int cb), .val (.int lB), .val (.int (0 : Int32)), .val (.int da), .val (.int db), .val (.ref o2), .unset, .unset, .unset, .unset, .unset, .unset, .unset] [(.ref o3)]))
    refine Go.st (fun _ k => XS.astore X.here hx rfl (hb hby at_126) rfl rfl (l' := #[.val (.long p0), .second, .val (.long p1), .second, .val (.long p2), .second, .val (.int p3), .val (.int lA), .val (.int ca), .val (.int cb), .val (.int lB), .val (.int (0 : Int32)), .val (.int da), .val (.int db), .val (.ref o2), .val (.ref o3), .unset, .unset, .unset, .unset, .unset, .unset]) rfl k) ?_
    show Go p e below _ (T.setTop (mkF m 128 #[.val (.long p0), .second, .val (.long p1), .second, .val (.long p2), .second, .val (.int p3), .val (.int lA), .val (.int ca), .val (.int cb), .val (.int lB), .val (.int (0 : Int32)), .val (.int da), .val (.int db), .val (.ref o2), .val (.ref o3), .unset, .unset, .unset, .unset, .unset, .unset] []))
    refine Go.st (fun _ k => XS.lload X.here hx rfl (hb hby at_128) rfl k) ?_
    show Go p e below _ (T.setTop (mkF m 130 #[.val (.long p0), .second, .val (.long p1), .second, .val (.long p2), .second, .val (.int p3), .val (.int lA), .val (.int ca), .val (.int cb), .val (.int lB), .val (.int (0 : Int32)), .val (.int da), .val (.int db), .val (.ref o2), .val (.ref o3), .unset, .unset, .unset, .unset, .unset, .unset] [(.long p2)]))
    refine Go.st (fun _ k => X.ldc2J hx hown (mvT hZ (hw _ (List.mem_of_getElem? (i := 0) rfl))) rfl (hb hby at_130) k) ?_
    show Go p e below _ (T.setTop (mkF m 133 #[.val (.long p0), .second, .val (.long p1), .second, .val (.long p2), .second, .val (.int p3), .val (.int lA), .val (.int ca), .val (.int cb), .val (.int lB), .val (.int (0 : Int32)), .val (.int da), .val (.int db), .val (.ref o2), .val (.ref o3), .unset, .unset, .unset, .unset, .unset, .unset] [(.long (3 : Int64)), (.long p2)]))
    refine Go.st (fun _ k => XS.land X.here hx rfl (hb hby at_133) rfl k) ?_
    show Go p e below _ (T.setTop (mkF m 134 #[.val (.long p0), .second, .val (.long p1), .second, .val (.long p2), .second, .val (.int p3), .val (.int lA), .val (.int ca), .val (.int cb), .val (.int lB), .val (.int (0 : Int32)), .val (.int da), .val (.int db), .val (.ref o2), .val (.ref o3), .unset, .unset, .unset, .unset, .unset, .unset] [(.long (p2 &&& (3 : Int64)))]))
    refine Go.st (fun _ k => XS.l2i X.here hx rfl (hb hby at_134) rfl k) ?_
    show Go p e below _ (T.setTop (mkF m 135 #[.val (.long p0), .second, .val (.long p1), .second, .val (.long p2), .second, .val (.int p3), .val (.int lA), .val (.int ca), .val (.int cb), .val (.int lB), .val (.int (0 : Int32)), .val (.int da), .val (.int db), .val (.ref o2), .val (.ref o3), .unset, .unset, .unset, .unset, .unset, .unset] [(.int ((p2 &&& (3 : Int64)).toInt32))]))
    refine Go.st (fun _ k => XS.iconst X.here hx rfl (hb hby at_135) k) ?_
    show Go p e below _ (T.setTop (mkF m 136 #[.val (.long p0), .second, .val (.long p1), .second, .val (.long p2), .second, .val (.int p3), .val (.int lA), .val (.int ca), .val (.int cb), .val (.int lB), .val (.int (0 : Int32)), .val (.int da), .val (.int db), .val (.ref o2), .val (.ref o3), .unset, .unset, .unset, .unset, .unset, .unset] [(.int (3 : Int32)), (.int ((p2 &&& (3 : Int64)).toInt32))]))
    refine Go.st (fun _ k => iremM X hx rfl (hb hby at_136) rfl (by decide) k) ?_
    show Go p e below _ (T.setTop (mkF m 137 #[.val (.long p0), .second, .val (.long p1), .second, .val (.long p2), .second, .val (.int p3), .val (.int lA), .val (.int ca), .val (.int cb), .val (.int lB), .val (.int (0 : Int32)), .val (.int da), .val (.int db), .val (.ref o2), .val (.ref o3), .unset, .unset, .unset, .unset, .unset, .unset] [(.int (((p2 &&& (3 : Int64)).toInt32) % (3 : Int32)))]))
    refine Go.st (fun _ k => XS.lload X.here hx rfl (hb hby at_137) rfl k) ?_
    show Go p e below _ (T.setTop (mkF m 139 #[.val (.long p0), .second, .val (.long p1), .second, .val (.long p2), .second, .val (.int p3), .val (.int lA), .val (.int ca), .val (.int cb), .val (.int lB), .val (.int (0 : Int32)), .val (.int da), .val (.int db), .val (.ref o2), .val (.ref o3), .unset, .unset, .unset, .unset, .unset, .unset] [(.long p2), (.int (((p2 &&& (3 : Int64)).toInt32) % (3 : Int32)))]))
    refine Go.st (fun _ k => XS.iconst X.here hx rfl (hb hby at_139) k) ?_
    show Go p e below _ (T.setTop (mkF m 140 #[.val (.long p0), .second, .val (.long p1), .second, .val (.long p2), .second, .val (.int p3), .val (.int lA), .val (.int ca), .val (.int cb), .val (.int lB), .val (.int (0 : Int32)), .val (.int da), .val (.int db), .val (.ref o2), .val (.ref o3), .unset, .unset, .unset, .unset, .unset, .unset] [(.int (2 : Int32)), (.long p2), (.int (((p2 &&& (3 : Int64)).toInt32) % (3 : Int32)))]))
    refine Go.st (fun _ k => XS.lushr X.here hx rfl (hb hby at_140) rfl k) ?_
    show Go p e below _ (T.setTop (mkF m 141 #[.val (.long p0), .second, .val (.long p1), .second, .val (.long p2), .second, .val (.int p3), .val (.int lA), .val (.int ca), .val (.int cb), .val (.int lB), .val (.int (0 : Int32)), .val (.int da), .val (.int db), .val (.ref o2), .val (.ref o3), .unset, .unset, .unset, .unset, .unset, .unset] [(.long (((p2).toUInt64 >>> ((2 : Int32) &&& 0x3f).toInt64.toUInt64).toInt64)), (.int (((p2 &&& (3 : Int64)).toInt32) % (3 : Int32)))]))
    refine Go.st (fun _ k => X.ldc2J hx hown (mvT hZ (hw _ (List.mem_of_getElem? (i := 1) rfl))) rfl (hb hby at_141) k) ?_
    show Go p e below _ (T.setTop (mkF m 144 #[.val (.long p0), .second, .val (.long p1), .second, .val (.long p2), .second, .val (.int p3), .val (.int lA), .val (.int ca), .val (.int cb), .val (.int lB), .val (.int (0 : Int32)), .val (.int da), .val (.int db), .val (.ref o2), .val (.ref o3), .unset, .unset, .unset, .unset, .unset, .unset] [(.long (65535 : Int64)), (.long (((p2).toUInt64 >>> ((2 : Int32) &&& 0x3f).toInt64.toUInt64).toInt64)), (.int (((p2 &&& (3 : Int64)).toInt32) % (3 : Int32)))]))
    refine Go.st (fun _ k => XS.land X.here hx rfl (hb hby at_144) rfl k) ?_
    show Go p e below _ (T.setTop (mkF m 145 #[.val (.long p0), .second, .val (.long p1), .second, .val (.long p2), .second, .val (.int p3), .val (.int lA), .val (.int ca), .val (.int cb), .val (.int lB), .val (.int (0 : Int32)), .val (.int da), .val (.int db), .val (.ref o2), .val (.ref o3), .unset, .unset, .unset, .unset, .unset, .unset] [(.long ((((p2).toUInt64 >>> ((2 : Int32) &&& 0x3f).toInt64.toUInt64).toInt64) &&& (65535 : Int64))), (.int (((p2 &&& (3 : Int64)).toInt32) % (3 : Int32)))]))
    refine Go.st (fun _ k => XS.l2i X.here hx rfl (hb hby at_145) rfl k) ?_
    show Go p e below _ (T.setTop (mkF m 146 #[.val (.long p0), .second, .val (.long p1), .second, .val (.long p2), .second, .val (.int p3), .val (.int lA), .val (.int ca), .val (.int cb), .val (.int lB), .val (.int (0 : Int32)), .val (.int da), .val (.int db), .val (.ref o2), .val (.ref o3), .unset, .unset, .unset, .unset, .unset, .unset] [(.int (((((p2).toUInt64 >>> ((2 : Int32) &&& 0x3f).toInt64.toUInt64).toInt64) &&& (65535 : Int64)).toInt32)), (.int (((p2 &&& (3 : Int64)).toInt32) % (3 : Int32)))]))
    refine Go.st (fun _ k => XS.lload X.here hx rfl (hb hby at_146) rfl k) ?_
    show Go p e below _ (T.setTop (mkF m 148 #[.val (.long p0), .second, .val (.long p1), .second, .val (.long p2), .second, .val (.int p3), .val (.int lA), .val (.int ca), .val (.int cb), .val (.int lB), .val (.int (0 : Int32)), .val (.int da), .val (.int db), .val (.ref o2), .val (.ref o3), .unset, .unset, .unset, .unset, .unset, .unset] [(.long p2), (.int (((((p2).toUInt64 >>> ((2 : Int32) &&& 0x3f).toInt64.toUInt64).toInt64) &&& (65535 : Int64)).toInt32)), (.int (((p2 &&& (3 : Int64)).toInt32) % (3 : Int32)))]))
    refine Go.st (fun _ k => XS.bipush X.here hx rfl (hb hby at_148) k) ?_
    show Go p e below _ (T.setTop (mkF m 150 #[.val (.long p0), .second, .val (.long p1), .second, .val (.long p2), .second, .val (.int p3), .val (.int lA), .val (.int ca), .val (.int cb), .val (.int lB), .val (.int (0 : Int32)), .val (.int da), .val (.int db), .val (.ref o2), .val (.ref o3), .unset, .unset, .unset, .unset, .unset, .unset] [(.int (18 : Int32)), (.long p2), (.int (((((p2).toUInt64 >>> ((2 : Int32) &&& 0x3f).toInt64.toUInt64).toInt64) &&& (65535 : Int64)).toInt32)), (.int (((p2 &&& (3 : Int64)).toInt32) % (3 : Int32)))]))
    refine Go.st (fun _ k => XS.lushr X.here hx rfl (hb hby at_150) rfl k) ?_
    show Go p e below _ (T.setTop (mkF m 151 #[.val (.long p0), .second, .val (.long p1), .second, .val (.long p2), .second, .val (.int p3), .val (.int lA), .val (.int ca), .val (.int cb), .val (.int lB), .val (.int (0 : Int32)), .val (.int da), .val (.int db), .val (.ref o2), .val (.ref o3), .unset, .unset, .unset, .unset, .unset, .unset] [(.long (((p2).toUInt64 >>> ((18 : Int32) &&& 0x3f).toInt64.toUInt64).toInt64)), (.int (((((p2).toUInt64 >>> ((2 : Int32) &&& 0x3f).toInt64.toUInt64).toInt64) &&& (65535 : Int64)).toInt32)), (.int (((p2 &&& (3 : Int64)).toInt32) % (3 : Int32)))]))
    refine Go.st (fun _ k => X.ldc2J hx hown (mvT hZ (hw _ (List.mem_of_getElem? (i := 1) rfl))) rfl (hb hby at_151) k) ?_
    show Go p e below _ (T.setTop (mkF m 154 #[.val (.long p0), .second, .val (.long p1), .second, .val (.long p2), .second, .val (.int p3), .val (.int lA), .val (.int ca), .val (.int cb), .val (.int lB), .val (.int (0 : Int32)), .val (.int da), .val (.int db), .val (.ref o2), .val (.ref o3), .unset, .unset, .unset, .unset, .unset, .unset] [(.long (65535 : Int64)), (.long (((p2).toUInt64 >>> ((18 : Int32) &&& 0x3f).toInt64.toUInt64).toInt64)), (.int (((((p2).toUInt64 >>> ((2 : Int32) &&& 0x3f).toInt64.toUInt64).toInt64) &&& (65535 : Int64)).toInt32)), (.int (((p2 &&& (3 : Int64)).toInt32) % (3 : Int32)))]))
    refine Go.st (fun _ k => XS.land X.here hx rfl (hb hby at_154) rfl k) ?_
    show Go p e below _ (T.setTop (mkF m 155 #[.val (.long p0), .second, .val (.long p1), .second, .val (.long p2), .second, .val (.int p3), .val (.int lA), .val (.int ca), .val (.int cb), .val (.int lB), .val (.int (0 : Int32)), .val (.int da), .val (.int db), .val (.ref o2), .val (.ref o3), .unset, .unset, .unset, .unset, .unset, .unset] [(.long ((((p2).toUInt64 >>> ((18 : Int32) &&& 0x3f).toInt64.toUInt64).toInt64) &&& (65535 : Int64))), (.int (((((p2).toUInt64 >>> ((2 : Int32) &&& 0x3f).toInt64.toUInt64).toInt64) &&& (65535 : Int64)).toInt32)), (.int (((p2 &&& (3 : Int64)).toInt32) % (3 : Int32)))]))
    refine Go.st (fun _ k => XS.l2i X.here hx rfl (hb hby at_155) rfl k) ?_
    show Go p e below _ (T.setTop (mkF m 156 #[.val (.long p0), .second, .val (.long p1), .second, .val (.long p2), .second, .val (.int p3), .val (.int lA), .val (.int ca), .val (.int cb), .val (.int lB), .val (.int (0 : Int32)), .val (.int da), .val (.int db), .val (.ref o2), .val (.ref o3), .unset, .unset, .unset, .unset, .unset, .unset] [(.int (((((p2).toUInt64 >>> ((18 : Int32) &&& 0x3f).toInt64.toUInt64).toInt64) &&& (65535 : Int64)).toInt32)), (.int (((((p2).toUInt64 >>> ((2 : Int32) &&& 0x3f).toInt64.toUInt64).toInt64) &&& (65535 : Int64)).toInt32)), (.int (((p2 &&& (3 : Int64)).toInt32) % (3 : Int32)))]))
    refine Go.callH (argsL := [(.int (((p2 &&& (3 : Int64)).toInt32) % (3 : Int32))), (.int (((((p2).toUInt64 >>> ((2 : Int32) &&& 0x3f).toInt64.toUInt64).toInt64) &&& (65535 : Int64)).toInt32)), (.int (((((p2).toUInt64 >>> ((18 : Int32) &&& 0x3f).toInt64.toUInt64).toInt64) &&& (65535 : Int64)).toInt32))]) (rest := []) (W := 0) (ck := 6) (sk := 14) H X hx hZ hown (hml.trans rfl) hT (hw _ (List.mem_of_getElem? (i := 2) rfl)) (hw _ (List.mem_of_getElem? (i := 3) rfl)) (hw _ (List.mem_of_getElem? (i := 4) rfl)) (hw _ (List.mem_of_getElem? (i := 5) rfl)) (by decide) pd_10 rfl rfl (Nat.le_of_ble_eq_true rfl) (hb hby at_156) (backOfSH (W := 0) (met_str l Z a0 hw [] (((p2 &&& (3 : Int64)).toInt32) % (3 : Int32)) (((((p2).toUInt64 >>> ((2 : Int32) &&& 0x3f).toInt64.toUInt64).toInt64) &&& (65535 : Int64)).toInt32) (((((p2).toUInt64 >>> ((18 : Int32) &&& 0x3f).toInt64.toUInt64).toInt64) &&& (65535 : Int64)).toInt32) z n0 h2 O Sc S16) hZ (hw _ (List.mem_of_getElem? (i := 5) rfl)) (hw _ (List.mem_of_getElem? (i := 4) rfl)) (by decide) (by decide) hEL H.2.1) (by decide) (by decide) ?_
    intro v T h3 L vm hT hQ hZ hown H Rc X
    obtain ⟨o4, rfl, N0, Ex0, S_o4⟩ := hQ
    have N := Fr.app N N0
    have KB := (Keep.refl h2 []).ext Ex0
    have O := O.keep KB all0
    have S_o2 := S_o2.ext (keepE KB)
    have S_o3 := S_o3.ext (keepE KB)
    show Go p e below _ (T.setTop (mkF m 159 #[.val (.long p0), .second, .val (.long p1), .second, .val (.long p2), .second, .val (.int p3), .val (.int lA), .val (.int ca), .val (.int cb), .val (.int lB), .val (.int (0 : Int32)), .val (.int da), .val (.int db), .val (.ref o2), .val (.ref o3), .unset, .unset, .unset, .unset, .unset, .unset] [(.ref o4)]))
    refine Go.st (fun _ k => XS.astore X.here hx rfl (hb hby at_159) rfl rfl (l' := #[.val (.long p0), .second, .val (.long p1), .second, .val (.long p2), .second, .val (.int p3), .val (.int lA), .val (.int ca), .val (.int cb), .val (.int lB), .val (.int (0 : Int32)), .val (.int da), .val (.int db), .val (.ref o2), .val (.ref o3), .val (.ref o4), .unset, .unset, .unset, .unset, .unset]) rfl k) ?_
    show Go p e below _ (T.setTop (mkF m 161 #[.val (.long p0), .second, .val (.long p1), .second, .val (.long p2), .second, .val (.int p3), .val (.int lA), .val (.int ca), .val (.int cb), .val (.int lB), .val (.int (0 : Int32)), .val (.int da), .val (.int db), .val (.ref o2), .val (.ref o3), .val (.ref o4), .unset, .unset, .unset, .unset, .unset] []))
    refine Go.st (fun _ k => XS.lload X.here hx rfl (hb hby at_161) rfl k) ?_
    show Go p e below _ (T.setTop (mkF m 163 #[.val (.long p0), .second, .val (.long p1), .second, .val (.long p2), .second, .val (.int p3), .val (.int lA), .val (.int ca), .val (.int cb), .val (.int lB), .val (.int (0 : Int32)), .val (.int da), .val (.int db), .val (.ref o2), .val (.ref o3), .val (.ref o4), .unset, .unset, .unset, .unset, .unset] [(.long p2)]))
    refine Go.st (fun _ k => XS.bipush X.here hx rfl (hb hby at_163) k) ?_
    show Go p e below _ (T.setTop (mkF m 165 #[.val (.long p0), .second, .val (.long p1), .second, .val (.long p2), .second, .val (.int p3), .val (.int lA), .val (.int ca), .val (.int cb), .val (.int lB), .val (.int (0 : Int32)), .val (.int da), .val (.int db), .val (.ref o2), .val (.ref o3), .val (.ref o4), .unset, .unset, .unset, .unset, .unset] [(.int (34 : Int32)), (.long p2)]))
    refine Go.st (fun _ k => XS.lushr X.here hx rfl (hb hby at_165) rfl k) ?_
    show Go p e below _ (T.setTop (mkF m 166 #[.val (.long p0), .second, .val (.long p1), .second, .val (.long p2), .second, .val (.int p3), .val (.int lA), .val (.int ca), .val (.int cb), .val (.int lB), .val (.int (0 : Int32)), .val (.int da), .val (.int db), .val (.ref o2), .val (.ref o3), .val (.ref o4), .unset, .unset, .unset, .unset, .unset] [(.long (((p2).toUInt64 >>> ((34 : Int32) &&& 0x3f).toInt64.toUInt64).toInt64))]))
    refine Go.st (fun _ k => X.ldc2J hx hown (mvT hZ (hw _ (List.mem_of_getElem? (i := 0) rfl))) rfl (hb hby at_166) k) ?_
    show Go p e below _ (T.setTop (mkF m 169 #[.val (.long p0), .second, .val (.long p1), .second, .val (.long p2), .second, .val (.int p3), .val (.int lA), .val (.int ca), .val (.int cb), .val (.int lB), .val (.int (0 : Int32)), .val (.int da), .val (.int db), .val (.ref o2), .val (.ref o3), .val (.ref o4), .unset, .unset, .unset, .unset, .unset] [(.long (3 : Int64)), (.long (((p2).toUInt64 >>> ((34 : Int32) &&& 0x3f).toInt64.toUInt64).toInt64))]))
    refine Go.st (fun _ k => XS.land X.here hx rfl (hb hby at_169) rfl k) ?_
    show Go p e below _ (T.setTop (mkF m 170 #[.val (.long p0), .second, .val (.long p1), .second, .val (.long p2), .second, .val (.int p3), .val (.int lA), .val (.int ca), .val (.int cb), .val (.int lB), .val (.int (0 : Int32)), .val (.int da), .val (.int db), .val (.ref o2), .val (.ref o3), .val (.ref o4), .unset, .unset, .unset, .unset, .unset] [(.long ((((p2).toUInt64 >>> ((34 : Int32) &&& 0x3f).toInt64.toUInt64).toInt64) &&& (3 : Int64)))]))
    refine Go.st (fun _ k => XS.l2i X.here hx rfl (hb hby at_170) rfl k) ?_
    show Go p e below _ (T.setTop (mkF m 171 #[.val (.long p0), .second, .val (.long p1), .second, .val (.long p2), .second, .val (.int p3), .val (.int lA), .val (.int ca), .val (.int cb), .val (.int lB), .val (.int (0 : Int32)), .val (.int da), .val (.int db), .val (.ref o2), .val (.ref o3), .val (.ref o4), .unset, .unset, .unset, .unset, .unset] [(.int (((((p2).toUInt64 >>> ((34 : Int32) &&& 0x3f).toInt64.toUInt64).toInt64) &&& (3 : Int64)).toInt32))]))
    refine Go.st (fun _ k => XS.iconst X.here hx rfl (hb hby at_171) k) ?_
    show Go p e below _ (T.setTop (mkF m 172 #[.val (.long p0), .second, .val (.long p1), .second, .val (.long p2), .second, .val (.int p3), .val (.int lA), .val (.int ca), .val (.int cb), .val (.int lB), .val (.int (0 : Int32)), .val (.int da), .val (.int db), .val (.ref o2), .val (.ref o3), .val (.ref o4), .unset, .unset, .unset, .unset, .unset] [(.int (3 : Int32)), (.int (((((p2).toUInt64 >>> ((34 : Int32) &&& 0x3f).toInt64.toUInt64).toInt64) &&& (3 : Int64)).toInt32))]))
    refine Go.st (fun _ k => iremM X hx rfl (hb hby at_172) rfl (by decide) k) ?_
    show Go p e below _ (T.setTop (mkF m 173 #[.val (.long p0), .second, .val (.long p1), .second, .val (.long p2), .second, .val (.int p3), .val (.int lA), .val (.int ca), .val (.int cb), .val (.int lB), .val (.int (0 : Int32)), .val (.int da), .val (.int db), .val (.ref o2), .val (.ref o3), .val (.ref o4), .unset, .unset, .unset, .unset, .unset] [(.int ((((((p2).toUInt64 >>> ((34 : Int32) &&& 0x3f).toInt64.toUInt64).toInt64) &&& (3 : Int64)).toInt32) % (3 : Int32)))]))
    refine Go.st (fun _ k => XS.lload X.here hx rfl (hb hby at_173) rfl k) ?_
    show Go p e below _ (T.setTop (mkF m 175 #[.val (.long p0), .second, .val (.long p1), .second, .val (.long p2), .second, .val (.int p3), .val (.int lA), .val (.int ca), .val (.int cb), .val (.int lB), .val (.int (0 : Int32)), .val (.int da), .val (.int db), .val (.ref o2), .val (.ref o3), .val (.ref o4), .unset, .unset, .unset, .unset, .unset] [(.long p2), (.int ((((((p2).toUInt64 >>> ((34 : Int32) &&& 0x3f).toInt64.toUInt64).toInt64) &&& (3 : Int64)).toInt32) % (3 : Int32)))]))
    refine Go.st (fun _ k => XS.bipush X.here hx rfl (hb hby at_175) k) ?_
    show Go p e below _ (T.setTop (mkF m 177 #[.val (.long p0), .second, .val (.long p1), .second, .val (.long p2), .second, .val (.int p3), .val (.int lA), .val (.int ca), .val (.int cb), .val (.int lB), .val (.int (0 : Int32)), .val (.int da), .val (.int db), .val (.ref o2), .val (.ref o3), .val (.ref o4), .unset, .unset, .unset, .unset, .unset] [(.int (36 : Int32)), (.long p2), (.int ((((((p2).toUInt64 >>> ((34 : Int32) &&& 0x3f).toInt64.toUInt64).toInt64) &&& (3 : Int64)).toInt32) % (3 : Int32)))]))
    refine Go.st (fun _ k => XS.lushr X.here hx rfl (hb hby at_177) rfl k) ?_
    show Go p e below _ (T.setTop (mkF m 178 #[.val (.long p0), .second, .val (.long p1), .second, .val (.long p2), .second, .val (.int p3), .val (.int lA), .val (.int ca), .val (.int cb), .val (.int lB), .val (.int (0 : Int32)), .val (.int da), .val (.int db), .val (.ref o2), .val (.ref o3), .val (.ref o4), .unset, .unset, .unset, .unset, .unset] [(.long (((p2).toUInt64 >>> ((36 : Int32) &&& 0x3f).toInt64.toUInt64).toInt64)), (.int ((((((p2).toUInt64 >>> ((34 : Int32) &&& 0x3f).toInt64.toUInt64).toInt64) &&& (3 : Int64)).toInt32) % (3 : Int32)))]))
    refine Go.st (fun _ k => X.ldc2J hx hown (mvT hZ (hw _ (List.mem_of_getElem? (i := 1) rfl))) rfl (hb hby at_178) k) ?_
    show Go p e below _ (T.setTop (mkF m 181 #[.val (.long p0), .second, .val (.long p1), .second, .val (.long p2), .second, .val (.int p3), .val (.int lA), .val (.int ca), .val (.int cb), .val (.int lB), .val (.int (0 : Int32)), .val (.int da), .val (.int db), .val (.ref o2), .val (.ref o3), .val (.ref o4), .unset, .unset, .unset, .unset, .unset] [(.long (65535 : Int64)), (.long (((p2).toUInt64 >>> ((36 : Int32) &&& 0x3f).toInt64.toUInt64).toInt64)), (.int ((((((p2).toUInt64 >>> ((34 : Int32) &&& 0x3f).toInt64.toUInt64).toInt64) &&& (3 : Int64)).toInt32) % (3 : Int32)))]))
    refine Go.st (fun _ k => XS.land X.here hx rfl (hb hby at_181) rfl k) ?_
    show Go p e below _ (T.setTop (mkF m 182 #[.val (.long p0), .second, .val (.long p1), .second, .val (.long p2), .second, .val (.int p3), .val (.int lA), .val (.int ca), .val (.int cb), .val (.int lB), .val (.int (0 : Int32)), .val (.int da), .val (.int db), .val (.ref o2), .val (.ref o3), .val (.ref o4), .unset, .unset, .unset, .unset, .unset] [(.long ((((p2).toUInt64 >>> ((36 : Int32) &&& 0x3f).toInt64.toUInt64).toInt64) &&& (65535 : Int64))), (.int ((((((p2).toUInt64 >>> ((34 : Int32) &&& 0x3f).toInt64.toUInt64).toInt64) &&& (3 : Int64)).toInt32) % (3 : Int32)))]))
    refine Go.st (fun _ k => XS.l2i X.here hx rfl (hb hby at_182) rfl k) ?_
    show Go p e below _ (T.setTop (mkF m 183 #[.val (.long p0), .second, .val (.long p1), .second, .val (.long p2), .second, .val (.int p3), .val (.int lA), .val (.int ca), .val (.int cb), .val (.int lB), .val (.int (0 : Int32)), .val (.int da), .val (.int db), .val (.ref o2), .val (.ref o3), .val (.ref o4), .unset, .unset, .unset, .unset, .unset] [(.int (((((p2).toUInt64 >>> ((36 : Int32) &&& 0x3f).toInt64.toUInt64).toInt64) &&& (65535 : Int64)).toInt32)), (.int ((((((p2).toUInt64 >>> ((34 : Int32) &&& 0x3f).toInt64.toUInt64).toInt64) &&& (3 : Int64)).toInt32) % (3 : Int32)))]))
    refine Go.st (fun _ k => XS.lload X.here hx rfl (hb hby at_183) rfl k) ?_
    show Go p e below _ (T.setTop (mkF m 185 #[.val (.long p0), .second, .val (.long p1), .second, .val (.long p2), .second, .val (.int p3), .val (.int lA), .val (.int ca), .val (.int cb), .val (.int lB), .val (.int (0 : Int32)), .val (.int da), .val (.int db), .val (.ref o2), .val (.ref o3), .val (.ref o4), .unset, .unset, .unset, .unset, .unset] [(.long p2), (.int (((((p2).toUInt64 >>> ((36 : Int32) &&& 0x3f).toInt64.toUInt64).toInt64) &&& (65535 : Int64)).toInt32)), (.int ((((((p2).toUInt64 >>> ((34 : Int32) &&& 0x3f).toInt64.toUInt64).toInt64) &&& (3 : Int64)).toInt32) % (3 : Int32)))]))
    refine Go.st (fun _ k => XS.bipush X.here hx rfl (hb hby at_185) k) ?_
    show Go p e below _ (T.setTop (mkF m 187 #[.val (.long p0), .second, .val (.long p1), .second, .val (.long p2), .second, .val (.int p3), .val (.int lA), .val (.int ca), .val (.int cb), .val (.int lB), .val (.int (0 : Int32)), .val (.int da), .val (.int db), .val (.ref o2), .val (.ref o3), .val (.ref o4), .unset, .unset, .unset, .unset, .unset] [(.int (52 : Int32)), (.long p2), (.int (((((p2).toUInt64 >>> ((36 : Int32) &&& 0x3f).toInt64.toUInt64).toInt64) &&& (65535 : Int64)).toInt32)), (.int ((((((p2).toUInt64 >>> ((34 : Int32) &&& 0x3f).toInt64.toUInt64).toInt64) &&& (3 : Int64)).toInt32) % (3 : Int32)))]))
    refine Go.st (fun _ k => XS.lushr X.here hx rfl (hb hby at_187) rfl k) ?_
    show Go p e below _ (T.setTop (mkF m 188 #[.val (.long p0), .second, .val (.long p1), .second, .val (.long p2), .second, .val (.int p3), .val (.int lA), .val (.int ca), .val (.int cb), .val (.int lB), .val (.int (0 : Int32)), .val (.int da), .val (.int db), .val (.ref o2), .val (.ref o3), .val (.ref o4), .unset, .unset, .unset, .unset, .unset] [(.long (((p2).toUInt64 >>> ((52 : Int32) &&& 0x3f).toInt64.toUInt64).toInt64)), (.int (((((p2).toUInt64 >>> ((36 : Int32) &&& 0x3f).toInt64.toUInt64).toInt64) &&& (65535 : Int64)).toInt32)), (.int ((((((p2).toUInt64 >>> ((34 : Int32) &&& 0x3f).toInt64.toUInt64).toInt64) &&& (3 : Int64)).toInt32) % (3 : Int32)))]))
    refine Go.st (fun _ k => X.ldc2J hx hown (mvT hZ (hw _ (List.mem_of_getElem? (i := 39) rfl))) rfl (hb hby at_188) k) ?_
    show Go p e below _ (T.setTop (mkF m 191 #[.val (.long p0), .second, .val (.long p1), .second, .val (.long p2), .second, .val (.int p3), .val (.int lA), .val (.int ca), .val (.int cb), .val (.int lB), .val (.int (0 : Int32)), .val (.int da), .val (.int db), .val (.ref o2), .val (.ref o3), .val (.ref o4), .unset, .unset, .unset, .unset, .unset] [(.long (4095 : Int64)), (.long (((p2).toUInt64 >>> ((52 : Int32) &&& 0x3f).toInt64.toUInt64).toInt64)), (.int (((((p2).toUInt64 >>> ((36 : Int32) &&& 0x3f).toInt64.toUInt64).toInt64) &&& (65535 : Int64)).toInt32)), (.int ((((((p2).toUInt64 >>> ((34 : Int32) &&& 0x3f).toInt64.toUInt64).toInt64) &&& (3 : Int64)).toInt32) % (3 : Int32)))]))
    refine Go.st (fun _ k => XS.land X.here hx rfl (hb hby at_191) rfl k) ?_
    show Go p e below _ (T.setTop (mkF m 192 #[.val (.long p0), .second, .val (.long p1), .second, .val (.long p2), .second, .val (.int p3), .val (.int lA), .val (.int ca), .val (.int cb), .val (.int lB), .val (.int (0 : Int32)), .val (.int da), .val (.int db), .val (.ref o2), .val (.ref o3), .val (.ref o4), .unset, .unset, .unset, .unset, .unset] [(.long ((((p2).toUInt64 >>> ((52 : Int32) &&& 0x3f).toInt64.toUInt64).toInt64) &&& (4095 : Int64))), (.int (((((p2).toUInt64 >>> ((36 : Int32) &&& 0x3f).toInt64.toUInt64).toInt64) &&& (65535 : Int64)).toInt32)), (.int ((((((p2).toUInt64 >>> ((34 : Int32) &&& 0x3f).toInt64.toUInt64).toInt64) &&& (3 : Int64)).toInt32) % (3 : Int32)))]))
    refine Go.st (fun _ k => XS.l2i X.here hx rfl (hb hby at_192) rfl k) ?_
    show Go p e below _ (T.setTop (mkF m 193 #[.val (.long p0), .second, .val (.long p1), .second, .val (.long p2), .second, .val (.int p3), .val (.int lA), .val (.int ca), .val (.int cb), .val (.int lB), .val (.int (0 : Int32)), .val (.int da), .val (.int db), .val (.ref o2), .val (.ref o3), .val (.ref o4), .unset, .unset, .unset, .unset, .unset] [(.int (((((p2).toUInt64 >>> ((52 : Int32) &&& 0x3f).toInt64.toUInt64).toInt64) &&& (4095 : Int64)).toInt32)), (.int (((((p2).toUInt64 >>> ((36 : Int32) &&& 0x3f).toInt64.toUInt64).toInt64) &&& (65535 : Int64)).toInt32)), (.int ((((((p2).toUInt64 >>> ((34 : Int32) &&& 0x3f).toInt64.toUInt64).toInt64) &&& (3 : Int64)).toInt32) % (3 : Int32)))]))
    refine Go.callH (argsL := [(.int ((((((p2).toUInt64 >>> ((34 : Int32) &&& 0x3f).toInt64.toUInt64).toInt64) &&& (3 : Int64)).toInt32) % (3 : Int32))), (.int (((((p2).toUInt64 >>> ((36 : Int32) &&& 0x3f).toInt64.toUInt64).toInt64) &&& (65535 : Int64)).toInt32)), (.int (((((p2).toUInt64 >>> ((52 : Int32) &&& 0x3f).toInt64.toUInt64).toInt64) &&& (4095 : Int64)).toInt32))]) (rest := []) (W := 0) (ck := 6) (sk := 14) H X hx hZ hown (hml.trans rfl) hT (hw _ (List.mem_of_getElem? (i := 2) rfl)) (hw _ (List.mem_of_getElem? (i := 3) rfl)) (hw _ (List.mem_of_getElem? (i := 4) rfl)) (hw _ (List.mem_of_getElem? (i := 5) rfl)) (by decide) pd_10 rfl rfl (Nat.le_of_ble_eq_true rfl) (hb hby at_193) (backOfSH (W := 0) (met_str l Z a0 hw [] ((((((p2).toUInt64 >>> ((34 : Int32) &&& 0x3f).toInt64.toUInt64).toInt64) &&& (3 : Int64)).toInt32) % (3 : Int32)) (((((p2).toUInt64 >>> ((36 : Int32) &&& 0x3f).toInt64.toUInt64).toInt64) &&& (65535 : Int64)).toInt32) (((((p2).toUInt64 >>> ((52 : Int32) &&& 0x3f).toInt64.toUInt64).toInt64) &&& (4095 : Int64)).toInt32) z n0 h3 O Sc S16) hZ (hw _ (List.mem_of_getElem? (i := 5) rfl)) (hw _ (List.mem_of_getElem? (i := 4) rfl)) (by decide) (by decide) hEL H.2.1) (by decide) (by decide) ?_
    intro v T h4 L vm hT hQ hZ hown H Rc X
    obtain ⟨o5, rfl, N0, Ex0, S_o5⟩ := hQ
    have N := Fr.app N N0
    have KB := (Keep.refl h3 []).ext Ex0
    have O := O.keep KB all0
    have S_o2 := S_o2.ext (keepE KB)
    have S_o3 := S_o3.ext (keepE KB)
    have S_o4 := S_o4.ext (keepE KB)
    show Go p e below _ (T.setTop (mkF m 196 #[.val (.long p0), .second, .val (.long p1), .second, .val (.long p2), .second, .val (.int p3), .val (.int lA), .val (.int ca), .val (.int cb), .val (.int lB), .val (.int (0 : Int32)), .val (.int da), .val (.int db), .val (.ref o2), .val (.ref o3), .val (.ref o4), .unset, .unset, .unset, .unset, .unset] [(.ref o5)]))
    refine Go.st (fun _ k => XS.astore X.here hx rfl (hb hby at_196) rfl rfl (l' := #[.val (.long p0), .second, .val (.long p1), .second, .val (.long p2), .second, .val (.int p3), .val (.int lA), .val (.int ca), .val (.int cb), .val (.int lB), .val (.int (0 : Int32)), .val (.int da), .val (.int db), .val (.ref o2), .val (.ref o3), .val (.ref o4), .val (.ref o5), .unset, .unset, .unset, .unset]) rfl k) ?_
    show Go p e below _ (T.setTop (mkF m 198 #[.val (.long p0), .second, .val (.long p1), .second, .val (.long p2), .second, .val (.int p3), .val (.int lA), .val (.int ca), .val (.int cb), .val (.int lB), .val (.int (0 : Int32)), .val (.int da), .val (.int db), .val (.ref o2), .val (.ref o3), .val (.ref o4), .val (.ref o5), .unset, .unset, .unset, .unset] []))
    obtain ⟨T, h5, X, hT, Ex0, A_o6, D_o6, -, st⟩ := newO X hx hZ hown (hw _ (List.mem_of_getElem? (i := 59) rfl)) (hw _ (List.mem_of_getElem? (i := 60) rfl)) (hw _ (List.mem_of_getElem? (i := 61) rfl)) hT (g := (mkF m 198 #[.val (.long p0), .second, .val (.long p1), .second, .val (.long p2), .second, .val (.int p3), .val (.int lA), .val (.int ca), .val (.int cb), .val (.int lB), .val (.int (0 : Int32)), .val (.int da), .val (.int db), .val (.ref o2), .val (.ref o3), .val (.ref o4), .val (.ref o5), .unset, .unset, .unset, .unset] [])) rfl (hb hby at_198) (by decide) (by decide)
    obtain ⟨o6, g_o6⟩ : ∃ z, z = h4.size := ⟨_, rfl⟩
    rw [← g_o6] at A_o6 D_o6 st
    refine Go.st st ?_
    have ge_o6 : n0 ≤ o6 := Nat.le_trans (own_le (O)) (Nat.le_of_eq g_o6.symm)
    have gk_o6 : h4.size ≤ o6 := Nat.le_trans (Keep.refl h4 []).1 (Nat.le_of_eq g_o6.symm)
    have Sf_o6 := Safe.ext Ex0 H.2.1 (Safe.new (Nat.le_of_eq g_o6.symm))
    have H := H.ext Ex0
    have KB := (Keep.refl h4 []).ext Ex0
    have F_o6_text := D_o6 (Or.inr (hw _ (List.mem_of_getElem? (i := 67) rfl))) (ty := (.object "java/lang/String")) (by decide)
    have F_o6_key := D_o6 (Or.inr (hw _ (List.mem_of_getElem? (i := 69) rfl))) (ty := (.object "java/lang/String")) (by decide)
    show Go p e below _ (T.setTop (mkF m 201 #[.val (.long p0), .second, .val (.long p1), .second, .val (.long p2), .second, .val (.int p3), .val (.int lA), .val (.int ca), .val (.int cb), .val (.int lB), .val (.int (0 : Int32)), .val (.int da), .val (.int db), .val (.ref o2), .val (.ref o3), .val (.ref o4), .val (.ref o5), .unset, .unset, .unset, .unset] [(.ref o6)]))
    refine Go.st (fun _ k => XS.dup X.here hx rfl (hb hby at_201) rfl rfl k) ?_
    show Go p e below _ (T.setTop (mkF m 202 #[.val (.long p0), .second, .val (.long p1), .second, .val (.long p2), .second, .val (.int p3), .val (.int lA), .val (.int ca), .val (.int cb), .val (.int lB), .val (.int (0 : Int32)), .val (.int da), .val (.int db), .val (.ref o2), .val (.ref o3), .val (.ref o4), .val (.ref o5), .unset, .unset, .unset, .unset] [(.ref o6), (.ref o6)]))
    refine Go.st (fun _ k => XS.aload X.here hx rfl (hb hby at_202) rfl rfl k) ?_
    show Go p e below _ (T.setTop (mkF m 204 #[.val (.long p0), .second, .val (.long p1), .second, .val (.long p2), .second, .val (.int p3), .val (.int lA), .val (.int ca), .val (.int cb), .val (.int lB), .val (.int (0 : Int32)), .val (.int da), .val (.int db), .val (.ref o2), .val (.ref o3), .val (.ref o4), .val (.ref o5), .unset, .unset, .unset, .unset] [(.ref o4), (.ref o6), (.ref o6)]))
    refine Go.st (fun _ k => XS.aload X.here hx rfl (hb hby at_204) rfl rfl k) ?_
    show Go p e below _ (T.setTop (mkF m 206 #[.val (.long p0), .second, .val (.long p1), .second, .val (.long p2), .second, .val (.int p3), .val (.int lA), .val (.int ca), .val (.int cb), .val (.int lB), .val (.int (0 : Int32)), .val (.int da), .val (.int db), .val (.ref o2), .val (.ref o3), .val (.ref o4), .val (.ref o5), .unset, .unset, .unset, .unset] [(.ref o2), (.ref o4), (.ref o6), (.ref o6)]))
    refine Go.specP (argsL := [(.ref o4), (.ref o2)]) (rest := [(.ref o6)]) (W := 1) (ck := 0) (sk := 0) X hx hZ hown (hml.trans rfl) hT rfl (hw _ (List.mem_of_getElem? (i := 62) rfl)) (hw _ (List.mem_of_getElem? (i := 63) rfl)) (hw _ (List.mem_of_getElem? (i := 64) rfl)) (by decide) pd_11 rfl rfl (Nat.le_of_ble_eq_true rfl) (hb hby at_206) (backOf (W := 1) (met_jv l Z a0 hw [] n0 o6 o4 o2 h5 ge_o6 A_o6 F_o6_text F_o6_key) hZ (hw _ (List.mem_of_getElem? (i := 64) rfl)) (hw _ (List.mem_of_getElem? (i := 61) rfl)) (by decide) (by decide)) (by decide) (by decide) ?_
    intro v T h6 L hT hQ X
    obtain ⟨rfl, N0, K0, A_o6, F_o6⟩ := hQ
    have N := Fr.app N N0
    have H := H.keep K0 (sfS Sf_o6 sf0)
    have KB := (KB).trans K0 (allS (Or.inr gk_o6) all0)
    have O := O.keep KB all0
    have S_o2 := S_o2.ext (keepE KB)
    have S_o3 := S_o3.ext (keepE KB)
    have S_o4 := S_o4.ext (keepE KB)
    have S_o5 := S_o5.ext (keepE KB)
    show Go p e below _ (T.setTop (mkF m 209 #[.val (.long p0), .second, .val (.long p1), .second, .val (.long p2), .second, .val (.int p3), .val (.int lA), .val (.int ca), .val (.int cb), .val (.int lB), .val (.int (0 : Int32)), .val (.int da), .val (.int db), .val (.ref o2), .val (.ref o3), .val (.ref o4), .val (.ref o5), .unset, .unset, .unset, .unset] [(.ref o6)]))
    refine Go.st (fun _ k => XS.astore X.here hx rfl (hb hby at_209) rfl rfl (l' := #[.val (.long p0), .second, .val (.long p1), .second, .val (.long p2), .second, .val (.int p3), .val (.int lA), .val (.int ca), .val (.int cb), .val (.int lB), .val (.int (0 : Int32)), .val (.int da), .val (.int db), .val (.ref o2), .val (.ref o3), .val (.ref o4), .val (.ref o5), .val (.ref o6), .unset, .unset, .unset]) rfl k) ?_
    show Go p e below _ (T.setTop (mkF m 211 #[.val (.long p0), .second, .val (.long p1), .second, .val (.long p2), .second, .val (.int p3), .val (.int lA), .val (.int ca), .val (.int cb), .val (.int lB), .val (.int (0 : Int32)), .val (.int da), .val (.int db), .val (.ref o2), .val (.ref o3), .val (.ref o4), .val (.ref o5), .val (.ref o6), .unset, .unset, .unset] []))
    obtain ⟨T, h7, X, hT, Ex0, A_o7, D_o7, -, st⟩ := newO X hx hZ hown (hw _ (List.mem_of_getElem? (i := 59) rfl)) (hw _ (List.mem_of_getElem? (i := 60) rfl)) (hw _ (List.mem_of_getElem? (i := 61) rfl)) hT (g := (mkF m 211 #[.val (.long p0), .second, .val (.long p1), .second, .val (.long p2), .second, .val (.int p3), .val (.int lA), .val (.int ca), .val (.int cb), .val (.int lB), .val (.int (0 : Int32)), .val (.int da), .val (.int db), .val (.ref o2), .val (.ref o3), .val (.ref o4), .val (.ref o5), .val (.ref o6), .unset, .unset, .unset] [])) rfl (hb hby at_211) (by decide) (by decide)
    obtain ⟨o7, g_o7⟩ : ∃ z, z = h6.size := ⟨_, rfl⟩
    rw [← g_o7] at A_o7 D_o7 st
    refine Go.st st ?_
    have ge_o7 : n0 ≤ o7 := Nat.le_trans (own_le (O)) (Nat.le_of_eq g_o7.symm)
    have gk_o7 : h6.size ≤ o7 := Nat.le_trans (Keep.refl h6 []).1 (Nat.le_of_eq g_o7.symm)
    have Sf_o7 := Safe.ext Ex0 H.2.1 (Safe.new (Nat.le_of_eq g_o7.symm))
    have H := H.ext Ex0
    have KB := (Keep.refl h6 []).ext Ex0
    have F_o7_text := D_o7 (Or.inr (hw _ (List.mem_of_getElem? (i := 67) rfl))) (ty := (.object "java/lang/String")) (by decide)
    have F_o7_key := D_o7 (Or.inr (hw _ (List.mem_of_getElem? (i := 69) rfl))) (ty := (.object "java/lang/String")) (by decide)
    show Go p e below _ (T.setTop (mkF m 214 #[.val (.long p0), .second, .val (.long p1), .second, .val (.long p2), .second, .val (.int p3), .val (.int lA), .val (.int ca), .val (.int cb), .val (.int lB), .val (.int (0 : Int32)), .val (.int da), .val (.int db), .val (.ref o2), .val (.ref o3), .val (.ref o4), .val (.ref o5), .val (.ref o6), .unset, .unset, .unset] [(.ref o7)]))
    refine Go.st (fun _ k => XS.dup X.here hx rfl (hb hby at_214) rfl rfl k) ?_
    show Go p e below _ (T.setTop (mkF m 215 #[.val (.long p0), .second, .val (.long p1), .second, .val (.long p2), .second, .val (.int p3), .val (.int lA), .val (.int ca), .val (.int cb), .val (.int lB), .val (.int (0 : Int32)), .val (.int da), .val (.int db), .val (.ref o2), .val (.ref o3), .val (.ref o4), .val (.ref o5), .val (.ref o6), .unset, .unset, .unset] [(.ref o7), (.ref o7)]))
    refine Go.st (fun _ k => XS.aload X.here hx rfl (hb hby at_215) rfl rfl k) ?_
    show Go p e below _ (T.setTop (mkF m 217 #[.val (.long p0), .second, .val (.long p1), .second, .val (.long p2), .second, .val (.int p3), .val (.int lA), .val (.int ca), .val (.int cb), .val (.int lB), .val (.int (0 : Int32)), .val (.int da), .val (.int db), .val (.ref o2), .val (.ref o3), .val (.ref o4), .val (.ref o5), .val (.ref o6), .unset, .unset, .unset] [(.ref o5), (.ref o7), (.ref o7)]))
    refine Go.st (fun _ k => XS.aload X.here hx rfl (hb hby at_217) rfl rfl k) ?_
    show Go p e below _ (T.setTop (mkF m 219 #[.val (.long p0), .second, .val (.long p1), .second, .val (.long p2), .second, .val (.int p3), .val (.int lA), .val (.int ca), .val (.int cb), .val (.int lB), .val (.int (0 : Int32)), .val (.int da), .val (.int db), .val (.ref o2), .val (.ref o3), .val (.ref o4), .val (.ref o5), .val (.ref o6), .unset, .unset, .unset] [(.ref o3), (.ref o5), (.ref o7), (.ref o7)]))
    refine Go.specP (argsL := [(.ref o5), (.ref o3)]) (rest := [(.ref o7)]) (W := 1) (ck := 0) (sk := 0) X hx hZ hown (hml.trans rfl) hT rfl (hw _ (List.mem_of_getElem? (i := 62) rfl)) (hw _ (List.mem_of_getElem? (i := 63) rfl)) (hw _ (List.mem_of_getElem? (i := 64) rfl)) (by decide) pd_11 rfl rfl (Nat.le_of_ble_eq_true rfl) (hb hby at_219) (backOf (W := 1) (met_jv l Z a0 hw [] n0 o7 o5 o3 h7 ge_o7 A_o7 F_o7_text F_o7_key) hZ (hw _ (List.mem_of_getElem? (i := 64) rfl)) (hw _ (List.mem_of_getElem? (i := 61) rfl)) (by decide) (by decide)) (by decide) (by decide) ?_
    intro v T h8 L hT hQ X
    obtain ⟨rfl, N0, K0, A_o7, F_o7⟩ := hQ
    have N := Fr.app N N0
    have H := H.keep K0 (sfS Sf_o7 sf0)
    have KB := (KB).trans K0 (allS (Or.inr gk_o7) all0)
    have O := O.keep KB all0
    have S_o2 := S_o2.ext (keepE KB)
    have S_o3 := S_o3.ext (keepE KB)
    have S_o4 := S_o4.ext (keepE KB)
    have S_o5 := S_o5.ext (keepE KB)
    have A_o6 := A_o6.keep KB
    have F_o6 := F_o6.keep KB nin0
    show Go p e below _ (T.setTop (mkF m 222 #[.val (.long p0), .second, .val (.long p1), .second, .val (.long p2), .second, .val (.int p3), .val (.int lA), .val (.int ca), .val (.int cb), .val (.int lB), .val (.int (0 : Int32)), .val (.int da), .val (.int db), .val (.ref o2), .val (.ref o3), .val (.ref o4), .val (.ref o5), .val (.ref o6), .unset, .unset, .unset] [(.ref o7)]))
    refine Go.st (fun _ k => XS.astore X.here hx rfl (hb hby at_222) rfl rfl (l' := #[.val (.long p0), .second, .val (.long p1), .second, .val (.long p2), .second, .val (.int p3), .val (.int lA), .val (.int ca), .val (.int cb), .val (.int lB), .val (.int (0 : Int32)), .val (.int da), .val (.int db), .val (.ref o2), .val (.ref o3), .val (.ref o4), .val (.ref o5), .val (.ref o6), .val (.ref o7), .unset, .unset]) rfl k) ?_
    show Go p e below _ (T.setTop (mkF m 224 #[.val (.long p0), .second, .val (.long p1), .second, .val (.long p2), .second, .val (.int p3), .val (.int lA), .val (.int ca), .val (.int cb), .val (.int lB), .val (.int (0 : Int32)), .val (.int da), .val (.int db), .val (.ref o2), .val (.ref o3), .val (.ref o4), .val (.ref o5), .val (.ref o6), .val (.ref o7), .unset, .unset] []))
    refine Go.st (fun _ k => XS.iload X.here hx rfl (hb hby at_224) rfl k) ?_
    show Go p e below _ (T.setTop (mkF m 226 #[.val (.long p0), .second, .val (.long p1), .second, .val (.long p2), .second, .val (.int p3), .val (.int lA), .val (.int ca), .val (.int cb), .val (.int lB), .val (.int (0 : Int32)), .val (.int da), .val (.int db), .val (.ref o2), .val (.ref o3), .val (.ref o4), .val (.ref o5), .val (.ref o6), .val (.ref o7), .unset, .unset] [(.int p3)]))
    refine Go.st (fun _ k => XS.iconst X.here hx rfl (hb hby at_226) k) ?_
    show Go p e below _ (T.setTop (mkF m 227 #[.val (.long p0), .second, .val (.long p1), .second, .val (.long p2), .second, .val (.int p3), .val (.int lA), .val (.int ca), .val (.int cb), .val (.int lB), .val (.int (0 : Int32)), .val (.int da), .val (.int db), .val (.ref o2), .val (.ref o3), .val (.ref o4), .val (.ref o5), .val (.ref o6), .val (.ref o7), .unset, .unset] [(.int (1 : Int32)), (.int p3)]))
    refine Go.st (fun _ k => XS.iushr X.here hx rfl (hb hby at_227) rfl k) ?_
    show Go p e below _ (T.setTop (mkF m 228 #[.val (.long p0), .second, .val (.long p1), .second, .val (.long p2), .second, .val (.int p3), .val (.int lA), .val (.int ca), .val (.int cb), .val (.int lB), .val (.int (0 : Int32)), .val (.int da), .val (.int db), .val (.ref o2), .val (.ref o3), .val (.ref o4), .val (.ref o5), .val (.ref o6), .val (.ref o7), .unset, .unset] [(.int (((p3).toUInt32 >>> ((1 : Int32) &&& 31).toUInt32).toInt32))]))
    refine Go.st (fun _ k => XS.iconst X.here hx rfl (hb hby at_228) k) ?_
    show Go p e below _ (T.setTop (mkF m 229 #[.val (.long p0), .second, .val (.long p1), .second, .val (.long p2), .second, .val (.int p3), .val (.int lA), .val (.int ca), .val (.int cb), .val (.int lB), .val (.int (0 : Int32)), .val (.int da), .val (.int db), .val (.ref o2), .val (.ref o3), .val (.ref o4), .val (.ref o5), .val (.ref o6), .val (.ref o7), .unset, .unset] [(.int (3 : Int32)), (.int (((p3).toUInt32 >>> ((1 : Int32) &&& 31).toUInt32).toInt32))]))
    refine Go.st (fun _ k => XS.iand X.here hx rfl (hb hby at_229) rfl k) ?_
    show Go p e below _ (T.setTop (mkF m 230 #[.val (.long p0), .second, .val (.long p1), .second, .val (.long p2), .second, .val (.int p3), .val (.int lA), .val (.int ca), .val (.int cb), .val (.int lB), .val (.int (0 : Int32)), .val (.int da), .val (.int db), .val (.ref o2), .val (.ref o3), .val (.ref o4), .val (.ref o5), .val (.ref o6), .val (.ref o7), .unset, .unset] [(.int ((((p3).toUInt32 >>> ((1 : Int32) &&& 31).toUInt32).toInt32) &&& (3 : Int32)))]))
    obtain ⟨kd, hkd⟩ : ∃ z, z = ((((p3).toUInt32 >>> ((1 : Int32) &&& 31).toUInt32).toInt32) &&& (3 : Int32)) := ⟨_, rfl⟩
    rw [← hkd]
    show Go p e below _ (T.setTop (mkF m 230 #[.val (.long p0), .second, .val (.long p1), .second, .val (.long p2), .second, .val (.int p3), .val (.int lA), .val (.int ca), .val (.int cb), .val (.int lB), .val (.int (0 : Int32)), .val (.int da), .val (.int db), .val (.ref o2), .val (.ref o3), .val (.ref o4), .val (.ref o5), .val (.ref o6), .val (.ref o7), .unset, .unset] [(.int kd)]))
    refine Go.st (fun _ k => XS.istore X.here hx rfl (hb hby at_230) rfl (l' := #[.val (.long p0), .second, .val (.long p1), .second, .val (.long p2), .second, .val (.int p3), .val (.int lA), .val (.int ca), .val (.int cb), .val (.int lB), .val (.int (0 : Int32)), .val (.int da), .val (.int db), .val (.ref o2), .val (.ref o3), .val (.ref o4), .val (.ref o5), .val (.ref o6), .val (.ref o7), .val (.int kd), .unset]) rfl k) ?_
    show Go p e below _ (T.setTop (mkF m 232 #[.val (.long p0), .second, .val (.long p1), .second, .val (.long p2), .second, .val (.int p3), .val (.int lA), .val (.int ca), .val (.int cb), .val (.int lB), .val (.int (0 : Int32)), .val (.int da), .val (.int db), .val (.ref o2), .val (.ref o3), .val (.ref o4), .val (.ref o5), .val (.ref o6), .val (.ref o7), .val (.int kd), .unset] []))
    refine Go.st (fun _ k => XS.iload X.here hx rfl (hb hby at_232) rfl k) ?_
    show Go p e below _ (T.setTop (mkF m 234 #[.val (.long p0), .second, .val (.long p1), .second, .val (.long p2), .second, .val (.int p3), .val (.int lA), .val (.int ca), .val (.int cb), .val (.int lB), .val (.int (0 : Int32)), .val (.int da), .val (.int db), .val (.ref o2), .val (.ref o3), .val (.ref o4), .val (.ref o5), .val (.ref o6), .val (.ref o7), .val (.int kd), .unset] [(.int kd)]))
    by_cases hc8 : kd = (0 : Int32)
    · refine Go.st (fun _ k => XS.ifNo X.here hx rfl (hb hby at_234) rfl (Jvm.Free.XT.i0_ne_f hc8) k) ?_
      show Go p e below _ (T.setTop (mkF m 237 #[.val (.long p0), .second, .val (.long p1), .second, .val (.long p2), .second, .val (.int p3), .val (.int lA), .val (.int ca), .val (.int cb), .val (.int lB), .val (.int (0 : Int32)), .val (.int da), .val (.int db), .val (.ref o2), .val (.ref o3), .val (.ref o4), .val (.ref o5), .val (.ref o6), .val (.ref o7), .val (.int kd), .unset] []))
      refine Go.st (fun _ k => XS.iload X.here hx rfl (hb hby at_237) rfl k) ?_
      show Go p e below _ (T.setTop (mkF m 239 #[.val (.long p0), .second, .val (.long p1), .second, .val (.long p2), .second, .val (.int p3), .val (.int lA), .val (.int ca), .val (.int cb), .val (.int lB), .val (.int (0 : Int32)), .val (.int da), .val (.int db), .val (.ref o2), .val (.ref o3), .val (.ref o4), .val (.ref o5), .val (.ref o6), .val (.ref o7), .val (.int kd), .unset] [(.int lA)]))
      refine Go.st (fun _ k => XS.iload X.here hx rfl (hb hby at_239) rfl k) ?_
      show Go p e below _ (T.setTop (mkF m 241 #[.val (.long p0), .second, .val (.long p1), .second, .val (.long p2), .second, .val (.int p3), .val (.int lA), .val (.int ca), .val (.int cb), .val (.int lB), .val (.int (0 : Int32)), .val (.int da), .val (.int db), .val (.ref o2), .val (.ref o3), .val (.ref o4), .val (.ref o5), .val (.ref o6), .val (.ref o7), .val (.int kd), .unset] [(.int lB), (.int lA)]))
      by_cases hc9 : lA = lB
      · refine Go.st (fun _ k => XS.icmpNo X.here hx rfl (hb hby at_241) rfl (Jvm.Free.XT.ii_ne_f hc9) k) ?_
        show Go p e below _ (T.setTop (mkF m 244 #[.val (.long p0), .second, .val (.long p1), .second, .val (.long p2), .second, .val (.int p3), .val (.int lA), .val (.int ca), .val (.int cb), .val (.int lB), .val (.int (0 : Int32)), .val (.int da), .val (.int db), .val (.ref o2), .val (.ref o3), .val (.ref o4), .val (.ref o5), .val (.ref o6), .val (.ref o7), .val (.int kd), .unset] []))
        refine Go.st (fun _ k => XS.iload X.here hx rfl (hb hby at_244) rfl k) ?_
        show Go p e below _ (T.setTop (mkF m 246 #[.val (.long p0), .second, .val (.long p1), .second, .val (.long p2), .second, .val (.int p3), .val (.int lA), .val (.int ca), .val (.int cb), .val (.int lB), .val (.int (0 : Int32)), .val (.int da), .val (.int db), .val (.ref o2), .val (.ref o3), .val (.ref o4), .val (.ref o5), .val (.ref o6), .val (.ref o7), .val (.int kd), .unset] [(.int lA)]))
        refine Go.st (fun _ k => XS.iconst X.here hx rfl (hb hby at_246) k) ?_
        show Go p e below _ (T.setTop (mkF m 247 #[.val (.long p0), .second, .val (.long p1), .second, .val (.long p2), .second, .val (.int p3), .val (.int lA), .val (.int ca), .val (.int cb), .val (.int lB), .val (.int (0 : Int32)), .val (.int da), .val (.int db), .val (.ref o2), .val (.ref o3), .val (.ref o4), .val (.ref o5), .val (.ref o6), .val (.ref o7), .val (.int kd), .unset] [(.int (1 : Int32)), (.int lA)]))
        by_cases hc10 : lA < (1 : Int32)
        · refine Go.st (fun _ k => XS.icmpYes X.here hx rfl (pc0 := 247) (pc' := 257) rfl (hb hby at_247) rfl (Jvm.Free.XT.ii_lt_t hc10) (by decide) (by decide) k) ?_
          show Go p e below _ (T.setTop (mkF m 257 #[.val (.long p0), .second, .val (.long p1), .second, .val (.long p2), .second, .val (.int p3), .val (.int lA), .val (.int ca), .val (.int cb), .val (.int lB), .val (.int (0 : Int32)), .val (.int da), .val (.int db), .val (.ref o2), .val (.ref o3), .val (.ref o4), .val (.ref o5), .val (.ref o6), .val (.ref o7), .val (.int kd), .unset] []))
          refine Go.st (fun _ k => XS.iload X.here hx rfl (hb hby at_257) rfl k) ?_
          show Go p e below _ (T.setTop (mkF m 259 #[.val (.long p0), .second, .val (.long p1), .second, .val (.long p2), .second, .val (.int p3), .val (.int lA), .val (.int ca), .val (.int cb), .val (.int lB), .val (.int (0 : Int32)), .val (.int da), .val (.int db), .val (.ref o2), .val (.ref o3), .val (.ref o4), .val (.ref o5), .val (.ref o6), .val (.ref o7), .val (.int kd), .unset] [(.int lA)]))
          refine Go.st (fun _ k => XS.iconst X.here hx rfl (hb hby at_259) k) ?_
          show Go p e below _ (T.setTop (mkF m 260 #[.val (.long p0), .second, .val (.long p1), .second, .val (.long p2), .second, .val (.int p3), .val (.int lA), .val (.int ca), .val (.int cb), .val (.int lB), .val (.int (0 : Int32)), .val (.int da), .val (.int db), .val (.ref o2), .val (.ref o3), .val (.ref o4), .val (.ref o5), .val (.ref o6), .val (.ref o7), .val (.int kd), .unset] [(.int (2 : Int32)), (.int lA)]))
          by_cases hc11 : lA < (2 : Int32)
          · refine Go.st (fun _ k => XS.icmpYes X.here hx rfl (pc0 := 260) (pc' := 270) rfl (hb hby at_260) rfl (Jvm.Free.XT.ii_lt_t hc11) (by decide) (by decide) k) ?_
            show Go p e below _ (T.setTop (mkF m 270 #[.val (.long p0), .second, .val (.long p1), .second, .val (.long p2), .second, .val (.int p3), .val (.int lA), .val (.int ca), .val (.int cb), .val (.int lB), .val (.int (0 : Int32)), .val (.int da), .val (.int db), .val (.ref o2), .val (.ref o3), .val (.ref o4), .val (.ref o5), .val (.ref o6), .val (.ref o7), .val (.int kd), .unset] []))
            refine Go.st (fun _ k => XS.iconst X.here hx rfl (hb hby at_270) k) ?_
            show Go p e below _ (T.setTop (mkF m 271 #[.val (.long p0), .second, .val (.long p1), .second, .val (.long p2), .second, .val (.int p3), .val (.int lA), .val (.int ca), .val (.int cb), .val (.int lB), .val (.int (0 : Int32)), .val (.int da), .val (.int db), .val (.ref o2), .val (.ref o3), .val (.ref o4), .val (.ref o5), .val (.ref o6), .val (.ref o7), .val (.int kd), .unset] [(.int (1 : Int32))]))
            refine Go.st (fun _ k => XS.goto X.here hx rfl (pc0 := 271) (pc' := 275) rfl (hb hby at_271) (by decide) (by decide) k) ?_
            show Go p e below _ (T.setTop (mkF m 275 #[.val (.long p0), .second, .val (.long p1), .second, .val (.long p2), .second, .val (.int p3), .val (.int lA), .val (.int ca), .val (.int cb), .val (.int lB), .val (.int (0 : Int32)), .val (.int da), .val (.int db), .val (.ref o2), .val (.ref o3), .val (.ref o4), .val (.ref o5), .val (.ref o6), .val (.ref o7), .val (.int kd), .unset] [(.int (1 : Int32))]))
            refine Go.st (fun _ k => XS.istore X.here hx rfl (hb hby at_275) rfl (l' := #[.val (.long p0), .second, .val (.long p1), .second, .val (.long p2), .second, .val (.int p3), .val (.int lA), .val (.int ca), .val (.int cb), .val (.int lB), .val (.int (0 : Int32)), .val (.int da), .val (.int db), .val (.ref o2), .val (.ref o3), .val (.ref o4), .val (.ref o5), .val (.ref o6), .val (.ref o7), .val (.int kd), .val (.int (1 : Int32))]) rfl k) ?_
            show Go p e below _ (T.setTop (mkF m 277 #[.val (.long p0), .second, .val (.long p1), .second, .val (.long p2), .second, .val (.int p3), .val (.int lA), .val (.int ca), .val (.int cb), .val (.int lB), .val (.int (0 : Int32)), .val (.int da), .val (.int db), .val (.ref o2), .val (.ref o3), .val (.ref o4), .val (.ref o5), .val (.ref o6), .val (.ref o7), .val (.int kd), .val (.int (1 : Int32))] []))
            refine Go.st (fun _ k => XS.aload X.here hx rfl (hb hby at_277) rfl rfl k) ?_
            show Go p e below _ (T.setTop (mkF m 279 #[.val (.long p0), .second, .val (.long p1), .second, .val (.long p2), .second, .val (.int p3), .val (.int lA), .val (.int ca), .val (.int cb), .val (.int lB), .val (.int (0 : Int32)), .val (.int da), .val (.int db), .val (.ref o2), .val (.ref o3), .val (.ref o4), .val (.ref o5), .val (.ref o6), .val (.ref o7), .val (.int kd), .val (.int (1 : Int32))] [(.ref o6)]))
            refine Go.st (fun _ k => XS.aload X.here hx rfl (hb hby at_279) rfl rfl k) ?_
            show Go p e below _ (T.setTop (mkF m 281 #[.val (.long p0), .second, .val (.long p1), .second, .val (.long p2), .second, .val (.int p3), .val (.int lA), .val (.int ca), .val (.int cb), .val (.int lB), .val (.int (0 : Int32)), .val (.int da), .val (.int db), .val (.ref o2), .val (.ref o3), .val (.ref o4), .val (.ref o5), .val (.ref o6), .val (.ref o7), .val (.int kd), .val (.int (1 : Int32))] [(.ref o7), (.ref o6)]))
            refine Go.virtV (K := "com/example/orgweave/orgweave/core/JsonValue") (z := (⟨"com/example/orgweave/orgweave/core/JsonValue", "equals", "(Ljava/lang/Object;)Z"⟩ : MethodName)) (argsL := [(.ref o7)]) (rest := []) (W := 0) (w := (.int (f_jeq (strL lA ca cb) (strL lB da db)))) X hx hZ hown (hml.trans rfl) hT A_o6 (hw _ (List.mem_of_getElem? (i := 70) rfl)) (hw _ (List.mem_of_getElem? (i := 71) rfl)) (hw _ (List.mem_of_getElem? (i := 73) rfl)) (hw _ (List.mem_of_getElem? (i := 72) rfl)) (by decide) pd_9 rfl rfl (Nat.le_of_ble_eq_true rfl) (hb hby at_281) (notFace_of_selects (args := #[]) (mvT hZ (hw _ (List.mem_of_getElem? (i := 73) rfl)))) (backOf (W := 0) (met_jeq l Z a0 hw [] z n0 o6 o7 o2 o3 (strL lA ca cb) (strL lB da db) _ O Sc A_o7 F_o6 F_o7 S_o2 S_o3) hZ (hw _ (List.mem_of_getElem? (i := 74) rfl)) (hw _ (List.mem_of_getElem? (i := 61) rfl)) (by decide) (by decide)) (by decide) (by decide) ?_
            intro T hT X
            show Go p e below _ (T.setTop (mkF m 284 #[.val (.long p0), .second, .val (.long p1), .second, .val (.long p2), .second, .val (.int p3), .val (.int lA), .val (.int ca), .val (.int cb), .val (.int lB), .val (.int (0 : Int32)), .val (.int da), .val (.int db), .val (.ref o2), .val (.ref o3), .val (.ref o4), .val (.ref o5), .val (.ref o6), .val (.ref o7), .val (.int kd), .val (.int (1 : Int32))] [(.int (f_jeq (strL lA ca cb) (strL lB da db)))]))
            refine Go.st (fun _ k => XS.iload X.here hx rfl (hb hby at_284) rfl k) ?_
            show Go p e below _ (T.setTop (mkF m 286 #[.val (.long p0), .second, .val (.long p1), .second, .val (.long p2), .second, .val (.int p3), .val (.int lA), .val (.int ca), .val (.int cb), .val (.int lB), .val (.int (0 : Int32)), .val (.int da), .val (.int db), .val (.ref o2), .val (.ref o3), .val (.ref o4), .val (.ref o5), .val (.ref o6), .val (.ref o7), .val (.int kd), .val (.int (1 : Int32))] [(.int (1 : Int32)), (.int (f_jeq (strL lA ca cb) (strL lB da db)))]))
            refine Go.st (fun _ k => XS.icmpNo X.here hx rfl (hb hby at_286) rfl (Jvm.Free.XT.ii_ne_f (own_jeq1 (own_3 hlA) (own_3 hlB) (own_m16 hca) (own_m16 hcb) (own_m16 hda) (own_m16 hdb) ⟨hc9, Or.inl hc10, Or.inl hc11⟩ : (f_jeq (strL lA ca cb) (strL lB da db)) = (1 : Int32))) k) ?_
            show Go p e below _ (T.setTop (mkF m 289 #[.val (.long p0), .second, .val (.long p1), .second, .val (.long p2), .second, .val (.int p3), .val (.int lA), .val (.int ca), .val (.int cb), .val (.int lB), .val (.int (0 : Int32)), .val (.int da), .val (.int db), .val (.ref o2), .val (.ref o3), .val (.ref o4), .val (.ref o5), .val (.ref o6), .val (.ref o7), .val (.int kd), .val (.int (1 : Int32))] []))
            refine Go.st (fun _ k => XS.aload X.here hx rfl (hb hby at_289) rfl rfl k) ?_
            show Go p e below _ (T.setTop (mkF m 291 #[.val (.long p0), .second, .val (.long p1), .second, .val (.long p2), .second, .val (.int p3), .val (.int lA), .val (.int ca), .val (.int cb), .val (.int lB), .val (.int (0 : Int32)), .val (.int da), .val (.int db), .val (.ref o2), .val (.ref o3), .val (.ref o4), .val (.ref o5), .val (.ref o6), .val (.ref o7), .val (.int kd), .val (.int (1 : Int32))] [(.ref o7)]))
            refine Go.st (fun _ k => XS.aload X.here hx rfl (hb hby at_291) rfl rfl k) ?_
            show Go p e below _ (T.setTop (mkF m 293 #[.val (.long p0), .second, .val (.long p1), .second, .val (.long p2), .second, .val (.int p3), .val (.int lA), .val (.int ca), .val (.int cb), .val (.int lB), .val (.int (0 : Int32)), .val (.int da), .val (.int db), .val (.ref o2), .val (.ref o3), .val (.ref o4), .val (.ref o5), .val (.ref o6), .val (.ref o7), .val (.int kd), .val (.int (1 : Int32))] [(.ref o6), (.ref o7)]))
            refine Go.virtV (K := "com/example/orgweave/orgweave/core/JsonValue") (z := (⟨"com/example/orgweave/orgweave/core/JsonValue", "equals", "(Ljava/lang/Object;)Z"⟩ : MethodName)) (argsL := [(.ref o6)]) (rest := []) (W := 0) (w := (.int (f_jeq (strL lB da db) (strL lA ca cb)))) X hx hZ hown (hml.trans rfl) hT A_o7 (hw _ (List.mem_of_getElem? (i := 70) rfl)) (hw _ (List.mem_of_getElem? (i := 71) rfl)) (hw _ (List.mem_of_getElem? (i := 73) rfl)) (hw _ (List.mem_of_getElem? (i := 72) rfl)) (by decide) pd_9 rfl rfl (Nat.le_of_ble_eq_true rfl) (hb hby at_293) (notFace_of_selects (args := #[]) (mvT hZ (hw _ (List.mem_of_getElem? (i := 73) rfl)))) (backOf (W := 0) (met_jeq l Z a0 hw [] z n0 o7 o6 o3 o2 (strL lB da db) (strL lA ca cb) _ O Sc A_o6 F_o7 F_o6 S_o3 S_o2) hZ (hw _ (List.mem_of_getElem? (i := 74) rfl)) (hw _ (List.mem_of_getElem? (i := 61) rfl)) (by decide) (by decide)) (by decide) (by decide) ?_
            intro T hT X
            show Go p e below _ (T.setTop (mkF m 296 #[.val (.long p0), .second, .val (.long p1), .second, .val (.long p2), .second, .val (.int p3), .val (.int lA), .val (.int ca), .val (.int cb), .val (.int lB), .val (.int (0 : Int32)), .val (.int da), .val (.int db), .val (.ref o2), .val (.ref o3), .val (.ref o4), .val (.ref o5), .val (.ref o6), .val (.ref o7), .val (.int kd), .val (.int (1 : Int32))] [(.int (f_jeq (strL lB da db) (strL lA ca cb)))]))
            refine Go.st (fun _ k => XS.iload X.here hx rfl (hb hby at_296) rfl k) ?_
            show Go p e below _ (T.setTop (mkF m 298 #[.val (.long p0), .second, .val (.long p1), .second, .val (.long p2), .second, .val (.int p3), .val (.int lA), .val (.int ca), .val (.int cb), .val (.int lB), .val (.int (0 : Int32)), .val (.int da), .val (.int db), .val (.ref o2), .val (.ref o3), .val (.ref o4), .val (.ref o5), .val (.ref o6), .val (.ref o7), .val (.int kd), .val (.int (1 : Int32))] [(.int (1 : Int32)), (.int (f_jeq (strL lB da db) (strL lA ca cb)))]))
            refine Go.st (fun _ k => XS.icmpNo X.here hx rfl (hb hby at_298) rfl (Jvm.Free.XT.ii_ne_f (own_jeq1S (own_3 hlA) (own_3 hlB) (own_m16 hca) (own_m16 hcb) (own_m16 hda) (own_m16 hdb) ⟨hc9, Or.inl hc10, Or.inl hc11⟩ : (f_jeq (strL lB da db) (strL lA ca cb)) = (1 : Int32))) k) ?_
            show Go p e below _ (T.setTop (mkF m 301 #[.val (.long p0), .second, .val (.long p1), .second, .val (.long p2), .second, .val (.int p3), .val (.int lA), .val (.int ca), .val (.int cb), .val (.int lB), .val (.int (0 : Int32)), .val (.int da), .val (.int db), .val (.ref o2), .val (.ref o3), .val (.ref o4), .val (.ref o5), .val (.ref o6), .val (.ref o7), .val (.int kd), .val (.int (1 : Int32))] []))
            refine Go.st (fun _ k => XS.iconst X.here hx rfl (hb hby at_301) k) ?_
            show Go p e below _ (T.setTop (mkF m 302 #[.val (.long p0), .second, .val (.long p1), .second, .val (.long p2), .second, .val (.int p3), .val (.int lA), .val (.int ca), .val (.int cb), .val (.int lB), .val (.int (0 : Int32)), .val (.int da), .val (.int db), .val (.ref o2), .val (.ref o3), .val (.ref o4), .val (.ref o5), .val (.ref o6), .val (.ref o7), .val (.int kd), .val (.int (1 : Int32))] [(.int (1 : Int32))]))
            refine Go.st (fun _ k => XS.goto X.here hx rfl (pc0 := 302) (pc' := 306) rfl (hb hby at_302) (by decide) (by decide) k) ?_
            show Go p e below _ (T.setTop (mkF m 306 #[.val (.long p0), .second, .val (.long p1), .second, .val (.long p2), .second, .val (.int p3), .val (.int lA), .val (.int ca), .val (.int cb), .val (.int lB), .val (.int (0 : Int32)), .val (.int da), .val (.int db), .val (.ref o2), .val (.ref o3), .val (.ref o4), .val (.ref o5), .val (.ref o6), .val (.ref o7), .val (.int kd), .val (.int (1 : Int32))] [(.int (1 : Int32))]))
            refine Go.retH hEL H hZ X hx hlk hT hret (by decide) (riI (by simp)) (hb hby at_306) (by decide) (by decide) ?_
            exact ⟨rfl, N⟩
          · refine Go.st (fun _ k => XS.icmpNo X.here hx rfl (hb hby at_260) rfl (Jvm.Free.XT.ii_lt_f hc11) k) ?_
            show Go p e below _ (T.setTop (mkF m 263 #[.val (.long p0), .second, .val (.long p1), .second, .val (.long p2), .second, .val (.int p3), .val (.int lA), .val (.int ca), .val (.int cb), .val (.int lB), .val (.int (0 : Int32)), .val (.int da), .val (.int db), .val (.ref o2), .val (.ref o3), .val (.ref o4), .val (.ref o5), .val (.ref o6), .val (.ref o7), .val (.int kd), .unset] []))
            refine Go.st (fun _ k => XS.iload X.here hx rfl (hb hby at_263) rfl k) ?_
            show Go p e below _ (T.setTop (mkF m 265 #[.val (.long p0), .second, .val (.long p1), .second, .val (.long p2), .second, .val (.int p3), .val (.int lA), .val (.int ca), .val (.int cb), .val (.int lB), .val (.int (0 : Int32)), .val (.int da), .val (.int db), .val (.ref o2), .val (.ref o3), .val (.ref o4), .val (.ref o5), .val (.ref o6), .val (.ref o7), .val (.int kd), .unset] [(.int cb)]))
            refine Go.st (fun _ k => XS.iload X.here hx rfl (hb hby at_265) rfl k) ?_
            show Go p e below _ (T.setTop (mkF m 267 #[.val (.long p0), .second, .val (.long p1), .second, .val (.long p2), .second, .val (.int p3), .val (.int lA), .val (.int ca), .val (.int cb), .val (.int lB), .val (.int (0 : Int32)), .val (.int da), .val (.int db), .val (.ref o2), .val (.ref o3), .val (.ref o4), .val (.ref o5), .val (.ref o6), .val (.ref o7), .val (.int kd), .unset] [(.int db), (.int cb)]))
            by_cases hc12 : cb = db
            · refine Go.st (fun _ k => XS.icmpNo X.here hx rfl (hb hby at_267) rfl (Jvm.Free.XT.ii_ne_f hc12) k) ?_
              show Go p e below _ (T.setTop (mkF m 270 #[.val (.long p0), .second, .val (.long p1), .second, .val (.long p2), .second, .val (.int p3), .val (.int lA), .val (.int ca), .val (.int cb), .val (.int lB), .val (.int (0 : Int32)), .val (.int da), .val (.int db), .val (.ref o2), .val (.ref o3), .val (.ref o4), .val (.ref o5), .val (.ref o6), .val (.ref o7), .val (.int kd), .unset] []))
              refine Go.st (fun _ k => XS.iconst X.here hx rfl (hb hby at_270) k) ?_
              show Go p e below _ (T.setTop (mkF m 271 #[.val (.long p0), .second, .val (.long p1), .second, .val (.long p2), .second, .val (.int p3), .val (.int lA), .val (.int ca), .val (.int cb), .val (.int lB), .val (.int (0 : Int32)), .val (.int da), .val (.int db), .val (.ref o2), .val (.ref o3), .val (.ref o4), .val (.ref o5), .val (.ref o6), .val (.ref o7), .val (.int kd), .unset] [(.int (1 : Int32))]))
              refine Go.st (fun _ k => XS.goto X.here hx rfl (pc0 := 271) (pc' := 275) rfl (hb hby at_271) (by decide) (by decide) k) ?_
              show Go p e below _ (T.setTop (mkF m 275 #[.val (.long p0), .second, .val (.long p1), .second, .val (.long p2), .second, .val (.int p3), .val (.int lA), .val (.int ca), .val (.int cb), .val (.int lB), .val (.int (0 : Int32)), .val (.int da), .val (.int db), .val (.ref o2), .val (.ref o3), .val (.ref o4), .val (.ref o5), .val (.ref o6), .val (.ref o7), .val (.int kd), .unset] [(.int (1 : Int32))]))
              refine Go.st (fun _ k => XS.istore X.here hx rfl (hb hby at_275) rfl (l' := #[.val (.long p0), .second, .val (.long p1), .second, .val (.long p2), .second, .val (.int p3), .val (.int lA), .val (.int ca), .val (.int cb), .val (.int lB), .val (.int (0 : Int32)), .val (.int da), .val (.int db), .val (.ref o2), .val (.ref o3), .val (.ref o4), .val (.ref o5), .val (.ref o6), .val (.ref o7), .val (.int kd), .val (.int (1 : Int32))]) rfl k) ?_
              show Go p e below _ (T.setTop (mkF m 277 #[.val (.long p0), .second, .val (.long p1), .second, .val (.long p2), .second, .val (.int p3), .val (.int lA), .val (.int ca), .val (.int cb), .val (.int lB), .val (.int (0 : Int32)), .val (.int da), .val (.int db), .val (.ref o2), .val (.ref o3), .val (.ref o4), .val (.ref o5), .val (.ref o6), .val (.ref o7), .val (.int kd), .val (.int (1 : Int32))] []))
              refine Go.st (fun _ k => XS.aload X.here hx rfl (hb hby at_277) rfl rfl k) ?_
              show Go p e below _ (T.setTop (mkF m 279 #[.val (.long p0), .second, .val (.long p1), .second, .val (.long p2), .second, .val (.int p3), .val (.int lA), .val (.int ca), .val (.int cb), .val (.int lB), .val (.int (0 : Int32)), .val (.int da), .val (.int db), .val (.ref o2), .val (.ref o3), .val (.ref o4), .val (.ref o5), .val (.ref o6), .val (.ref o7), .val (.int kd), .val (.int (1 : Int32))] [(.ref o6)]))
              refine Go.st (fun _ k => XS.aload X.here hx rfl (hb hby at_279) rfl rfl k) ?_
              show Go p e below _ (T.setTop (mkF m 281 #[.val (.long p0), .second, .val (.long p1), .second, .val (.long p2), .second, .val (.int p3), .val (.int lA), .val (.int ca), .val (.int cb), .val (.int lB), .val (.int (0 : Int32)), .val (.int da), .val (.int db), .val (.ref o2), .val (.ref o3), .val (.ref o4), .val (.ref o5), .val (.ref o6), .val (.ref o7), .val (.int kd), .val (.int (1 : Int32))] [(.ref o7), (.ref o6)]))
              refine Go.virtV (K := "com/example/orgweave/orgweave/core/JsonValue") (z := (⟨"com/example/orgweave/orgweave/core/JsonValue", "equals", "(Ljava/lang/Object;)Z"⟩ : MethodName)) (argsL := [(.ref o7)]) (rest := []) (W := 0) (w := (.int (f_jeq (strL lA ca cb) (strL lB da db)))) X hx hZ hown (hml.trans rfl) hT A_o6 (hw _ (List.mem_of_getElem? (i := 70) rfl)) (hw _ (List.mem_of_getElem? (i := 71) rfl)) (hw _ (List.mem_of_getElem? (i := 73) rfl)) (hw _ (List.mem_of_getElem? (i := 72) rfl)) (by decide) pd_9 rfl rfl (Nat.le_of_ble_eq_true rfl) (hb hby at_281) (notFace_of_selects (args := #[]) (mvT hZ (hw _ (List.mem_of_getElem? (i := 73) rfl)))) (backOf (W := 0) (met_jeq l Z a0 hw [] z n0 o6 o7 o2 o3 (strL lA ca cb) (strL lB da db) _ O Sc A_o7 F_o6 F_o7 S_o2 S_o3) hZ (hw _ (List.mem_of_getElem? (i := 74) rfl)) (hw _ (List.mem_of_getElem? (i := 61) rfl)) (by decide) (by decide)) (by decide) (by decide) ?_
              intro T hT X
              show Go p e below _ (T.setTop (mkF m 284 #[.val (.long p0), .second, .val (.long p1), .second, .val (.long p2), .second, .val (.int p3), .val (.int lA), .val (.int ca), .val (.int cb), .val (.int lB), .val (.int (0 : Int32)), .val (.int da), .val (.int db), .val (.ref o2), .val (.ref o3), .val (.ref o4), .val (.ref o5), .val (.ref o6), .val (.ref o7), .val (.int kd), .val (.int (1 : Int32))] [(.int (f_jeq (strL lA ca cb) (strL lB da db)))]))
              refine Go.st (fun _ k => XS.iload X.here hx rfl (hb hby at_284) rfl k) ?_
              show Go p e below _ (T.setTop (mkF m 286 #[.val (.long p0), .second, .val (.long p1), .second, .val (.long p2), .second, .val (.int p3), .val (.int lA), .val (.int ca), .val (.int cb), .val (.int lB), .val (.int (0 : Int32)), .val (.int da), .val (.int db), .val (.ref o2), .val (.ref o3), .val (.ref o4), .val (.ref o5), .val (.ref o6), .val (.ref o7), .val (.int kd), .val (.int (1 : Int32))] [(.int (1 : Int32)), (.int (f_jeq (strL lA ca cb) (strL lB da db)))]))
              refine Go.st (fun _ k => XS.icmpNo X.here hx rfl (hb hby at_286) rfl (Jvm.Free.XT.ii_ne_f (own_jeq1 (own_3 hlA) (own_3 hlB) (own_m16 hca) (own_m16 hcb) (own_m16 hda) (own_m16 hdb) ⟨hc9, Or.inl hc10, Or.inr hc12⟩ : (f_jeq (strL lA ca cb) (strL lB da db)) = (1 : Int32))) k) ?_
              show Go p e below _ (T.setTop (mkF m 289 #[.val (.long p0), .second, .val (.long p1), .second, .val (.long p2), .second, .val (.int p3), .val (.int lA), .val (.int ca), .val (.int cb), .val (.int lB), .val (.int (0 : Int32)), .val (.int da), .val (.int db), .val (.ref o2), .val (.ref o3), .val (.ref o4), .val (.ref o5), .val (.ref o6), .val (.ref o7), .val (.int kd), .val (.int (1 : Int32))] []))
              refine Go.st (fun _ k => XS.aload X.here hx rfl (hb hby at_289) rfl rfl k) ?_
              show Go p e below _ (T.setTop (mkF m 291 #[.val (.long p0), .second, .val (.long p1), .second, .val (.long p2), .second, .val (.int p3), .val (.int lA), .val (.int ca), .val (.int cb), .val (.int lB), .val (.int (0 : Int32)), .val (.int da), .val (.int db), .val (.ref o2), .val (.ref o3), .val (.ref o4), .val (.ref o5), .val (.ref o6), .val (.ref o7), .val (.int kd), .val (.int (1 : Int32))] [(.ref o7)]))
              refine Go.st (fun _ k => XS.aload X.here hx rfl (hb hby at_291) rfl rfl k) ?_
              show Go p e below _ (T.setTop (mkF m 293 #[.val (.long p0), .second, .val (.long p1), .second, .val (.long p2), .second, .val (.int p3), .val (.int lA), .val (.int ca), .val (.int cb), .val (.int lB), .val (.int (0 : Int32)), .val (.int da), .val (.int db), .val (.ref o2), .val (.ref o3), .val (.ref o4), .val (.ref o5), .val (.ref o6), .val (.ref o7), .val (.int kd), .val (.int (1 : Int32))] [(.ref o6), (.ref o7)]))
              refine Go.virtV (K := "com/example/orgweave/orgweave/core/JsonValue") (z := (⟨"com/example/orgweave/orgweave/core/JsonValue", "equals", "(Ljava/lang/Object;)Z"⟩ : MethodName)) (argsL := [(.ref o6)]) (rest := []) (W := 0) (w := (.int (f_jeq (strL lB da db) (strL lA ca cb)))) X hx hZ hown (hml.trans rfl) hT A_o7 (hw _ (List.mem_of_getElem? (i := 70) rfl)) (hw _ (List.mem_of_getElem? (i := 71) rfl)) (hw _ (List.mem_of_getElem? (i := 73) rfl)) (hw _ (List.mem_of_getElem? (i := 72) rfl)) (by decide) pd_9 rfl rfl (Nat.le_of_ble_eq_true rfl) (hb hby at_293) (notFace_of_selects (args := #[]) (mvT hZ (hw _ (List.mem_of_getElem? (i := 73) rfl)))) (backOf (W := 0) (met_jeq l Z a0 hw [] z n0 o7 o6 o3 o2 (strL lB da db) (strL lA ca cb) _ O Sc A_o6 F_o7 F_o6 S_o3 S_o2) hZ (hw _ (List.mem_of_getElem? (i := 74) rfl)) (hw _ (List.mem_of_getElem? (i := 61) rfl)) (by decide) (by decide)) (by decide) (by decide) ?_
              intro T hT X
              show Go p e below _ (T.setTop (mkF m 296 #[.val (.long p0), .second, .val (.long p1), .second, .val (.long p2), .second, .val (.int p3), .val (.int lA), .val (.int ca), .val (.int cb), .val (.int lB), .val (.int (0 : Int32)), .val (.int da), .val (.int db), .val (.ref o2), .val (.ref o3), .val (.ref o4), .val (.ref o5), .val (.ref o6), .val (.ref o7), .val (.int kd), .val (.int (1 : Int32))] [(.int (f_jeq (strL lB da db) (strL lA ca cb)))]))
              refine Go.st (fun _ k => XS.iload X.here hx rfl (hb hby at_296) rfl k) ?_
              show Go p e below _ (T.setTop (mkF m 298 #[.val (.long p0), .second, .val (.long p1), .second, .val (.long p2), .second, .val (.int p3), .val (.int lA), .val (.int ca), .val (.int cb), .val (.int lB), .val (.int (0 : Int32)), .val (.int da), .val (.int db), .val (.ref o2), .val (.ref o3), .val (.ref o4), .val (.ref o5), .val (.ref o6), .val (.ref o7), .val (.int kd), .val (.int (1 : Int32))] [(.int (1 : Int32)), (.int (f_jeq (strL lB da db) (strL lA ca cb)))]))
              refine Go.st (fun _ k => XS.icmpNo X.here hx rfl (hb hby at_298) rfl (Jvm.Free.XT.ii_ne_f (own_jeq1S (own_3 hlA) (own_3 hlB) (own_m16 hca) (own_m16 hcb) (own_m16 hda) (own_m16 hdb) ⟨hc9, Or.inl hc10, Or.inr hc12⟩ : (f_jeq (strL lB da db) (strL lA ca cb)) = (1 : Int32))) k) ?_
              show Go p e below _ (T.setTop (mkF m 301 #[.val (.long p0), .second, .val (.long p1), .second, .val (.long p2), .second, .val (.int p3), .val (.int lA), .val (.int ca), .val (.int cb), .val (.int lB), .val (.int (0 : Int32)), .val (.int da), .val (.int db), .val (.ref o2), .val (.ref o3), .val (.ref o4), .val (.ref o5), .val (.ref o6), .val (.ref o7), .val (.int kd), .val (.int (1 : Int32))] []))
              refine Go.st (fun _ k => XS.iconst X.here hx rfl (hb hby at_301) k) ?_
              show Go p e below _ (T.setTop (mkF m 302 #[.val (.long p0), .second, .val (.long p1), .second, .val (.long p2), .second, .val (.int p3), .val (.int lA), .val (.int ca), .val (.int cb), .val (.int lB), .val (.int (0 : Int32)), .val (.int da), .val (.int db), .val (.ref o2), .val (.ref o3), .val (.ref o4), .val (.ref o5), .val (.ref o6), .val (.ref o7), .val (.int kd), .val (.int (1 : Int32))] [(.int (1 : Int32))]))
              refine Go.st (fun _ k => XS.goto X.here hx rfl (pc0 := 302) (pc' := 306) rfl (hb hby at_302) (by decide) (by decide) k) ?_
              show Go p e below _ (T.setTop (mkF m 306 #[.val (.long p0), .second, .val (.long p1), .second, .val (.long p2), .second, .val (.int p3), .val (.int lA), .val (.int ca), .val (.int cb), .val (.int lB), .val (.int (0 : Int32)), .val (.int da), .val (.int db), .val (.ref o2), .val (.ref o3), .val (.ref o4), .val (.ref o5), .val (.ref o6), .val (.ref o7), .val (.int kd), .val (.int (1 : Int32))] [(.int (1 : Int32))]))
              refine Go.retH hEL H hZ X hx hlk hT hret (by decide) (riI (by simp)) (hb hby at_306) (by decide) (by decide) ?_
              exact ⟨rfl, N⟩
            · refine Go.st (fun _ k => XS.icmpYes X.here hx rfl (pc0 := 267) (pc' := 274) rfl (hb hby at_267) rfl (Jvm.Free.XT.ii_ne_t hc12) (by decide) (by decide) k) ?_
              show Go p e below _ (T.setTop (mkF m 274 #[.val (.long p0), .second, .val (.long p1), .second, .val (.long p2), .second, .val (.int p3), .val (.int lA), .val (.int ca), .val (.int cb), .val (.int lB), .val (.int (0 : Int32)), .val (.int da), .val (.int db), .val (.ref o2), .val (.ref o3), .val (.ref o4), .val (.ref o5), .val (.ref o6), .val (.ref o7), .val (.int kd), .unset] []))
              refine Go.st (fun _ k => XS.iconst X.here hx rfl (hb hby at_274) k) ?_
              show Go p e below _ (T.setTop (mkF m 275 #[.val (.long p0), .second, .val (.long p1), .second, .val (.long p2), .second, .val (.int p3), .val (.int lA), .val (.int ca), .val (.int cb), .val (.int lB), .val (.int (0 : Int32)), .val (.int da), .val (.int db), .val (.ref o2), .val (.ref o3), .val (.ref o4), .val (.ref o5), .val (.ref o6), .val (.ref o7), .val (.int kd), .unset] [(.int (0 : Int32))]))
              refine Go.st (fun _ k => XS.istore X.here hx rfl (hb hby at_275) rfl (l' := #[.val (.long p0), .second, .val (.long p1), .second, .val (.long p2), .second, .val (.int p3), .val (.int lA), .val (.int ca), .val (.int cb), .val (.int lB), .val (.int (0 : Int32)), .val (.int da), .val (.int db), .val (.ref o2), .val (.ref o3), .val (.ref o4), .val (.ref o5), .val (.ref o6), .val (.ref o7), .val (.int kd), .val (.int (0 : Int32))]) rfl k) ?_
              show Go p e below _ (T.setTop (mkF m 277 #[.val (.long p0), .second, .val (.long p1), .second, .val (.long p2), .second, .val (.int p3), .val (.int lA), .val (.int ca), .val (.int cb), .val (.int lB), .val (.int (0 : Int32)), .val (.int da), .val (.int db), .val (.ref o2), .val (.ref o3), .val (.ref o4), .val (.ref o5), .val (.ref o6), .val (.ref o7), .val (.int kd), .val (.int (0 : Int32))] []))
              refine Go.st (fun _ k => XS.aload X.here hx rfl (hb hby at_277) rfl rfl k) ?_
              show Go p e below _ (T.setTop (mkF m 279 #[.val (.long p0), .second, .val (.long p1), .second, .val (.long p2), .second, .val (.int p3), .val (.int lA), .val (.int ca), .val (.int cb), .val (.int lB), .val (.int (0 : Int32)), .val (.int da), .val (.int db), .val (.ref o2), .val (.ref o3), .val (.ref o4), .val (.ref o5), .val (.ref o6), .val (.ref o7), .val (.int kd), .val (.int (0 : Int32))] [(.ref o6)]))
              refine Go.st (fun _ k => XS.aload X.here hx rfl (hb hby at_279) rfl rfl k) ?_
              show Go p e below _ (T.setTop (mkF m 281 #[.val (.long p0), .second, .val (.long p1), .second, .val (.long p2), .second, .val (.int p3), .val (.int lA), .val (.int ca), .val (.int cb), .val (.int lB), .val (.int (0 : Int32)), .val (.int da), .val (.int db), .val (.ref o2), .val (.ref o3), .val (.ref o4), .val (.ref o5), .val (.ref o6), .val (.ref o7), .val (.int kd), .val (.int (0 : Int32))] [(.ref o7), (.ref o6)]))
              refine Go.virtV (K := "com/example/orgweave/orgweave/core/JsonValue") (z := (⟨"com/example/orgweave/orgweave/core/JsonValue", "equals", "(Ljava/lang/Object;)Z"⟩ : MethodName)) (argsL := [(.ref o7)]) (rest := []) (W := 0) (w := (.int (f_jeq (strL lA ca cb) (strL lB da db)))) X hx hZ hown (hml.trans rfl) hT A_o6 (hw _ (List.mem_of_getElem? (i := 70) rfl)) (hw _ (List.mem_of_getElem? (i := 71) rfl)) (hw _ (List.mem_of_getElem? (i := 73) rfl)) (hw _ (List.mem_of_getElem? (i := 72) rfl)) (by decide) pd_9 rfl rfl (Nat.le_of_ble_eq_true rfl) (hb hby at_281) (notFace_of_selects (args := #[]) (mvT hZ (hw _ (List.mem_of_getElem? (i := 73) rfl)))) (backOf (W := 0) (met_jeq l Z a0 hw [] z n0 o6 o7 o2 o3 (strL lA ca cb) (strL lB da db) _ O Sc A_o7 F_o6 F_o7 S_o2 S_o3) hZ (hw _ (List.mem_of_getElem? (i := 74) rfl)) (hw _ (List.mem_of_getElem? (i := 61) rfl)) (by decide) (by decide)) (by decide) (by decide) ?_
              intro T hT X
              show Go p e below _ (T.setTop (mkF m 284 #[.val (.long p0), .second, .val (.long p1), .second, .val (.long p2), .second, .val (.int p3), .val (.int lA), .val (.int ca), .val (.int cb), .val (.int lB), .val (.int (0 : Int32)), .val (.int da), .val (.int db), .val (.ref o2), .val (.ref o3), .val (.ref o4), .val (.ref o5), .val (.ref o6), .val (.ref o7), .val (.int kd), .val (.int (0 : Int32))] [(.int (f_jeq (strL lA ca cb) (strL lB da db)))]))
              refine Go.st (fun _ k => XS.iload X.here hx rfl (hb hby at_284) rfl k) ?_
              show Go p e below _ (T.setTop (mkF m 286 #[.val (.long p0), .second, .val (.long p1), .second, .val (.long p2), .second, .val (.int p3), .val (.int lA), .val (.int ca), .val (.int cb), .val (.int lB), .val (.int (0 : Int32)), .val (.int da), .val (.int db), .val (.ref o2), .val (.ref o3), .val (.ref o4), .val (.ref o5), .val (.ref o6), .val (.ref o7), .val (.int kd), .val (.int (0 : Int32))] [(.int (0 : Int32)), (.int (f_jeq (strL lA ca cb) (strL lB da db)))]))
              refine Go.st (fun _ k => XS.icmpNo X.here hx rfl (hb hby at_286) rfl (Jvm.Free.XT.ii_ne_f (own_jeq0 (own_3 hlA) (own_3 hlB) (own_m16 hca) (own_m16 hcb) (own_m16 hda) (own_m16 hdb) (fun q => q.2.2.elim hc11 hc12) : (f_jeq (strL lA ca cb) (strL lB da db)) = (0 : Int32))) k) ?_
              show Go p e below _ (T.setTop (mkF m 289 #[.val (.long p0), .second, .val (.long p1), .second, .val (.long p2), .second, .val (.int p3), .val (.int lA), .val (.int ca), .val (.int cb), .val (.int lB), .val (.int (0 : Int32)), .val (.int da), .val (.int db), .val (.ref o2), .val (.ref o3), .val (.ref o4), .val (.ref o5), .val (.ref o6), .val (.ref o7), .val (.int kd), .val (.int (0 : Int32))] []))
              refine Go.st (fun _ k => XS.aload X.here hx rfl (hb hby at_289) rfl rfl k) ?_
              show Go p e below _ (T.setTop (mkF m 291 #[.val (.long p0), .second, .val (.long p1), .second, .val (.long p2), .second, .val (.int p3), .val (.int lA), .val (.int ca), .val (.int cb), .val (.int lB), .val (.int (0 : Int32)), .val (.int da), .val (.int db), .val (.ref o2), .val (.ref o3), .val (.ref o4), .val (.ref o5), .val (.ref o6), .val (.ref o7), .val (.int kd), .val (.int (0 : Int32))] [(.ref o7)]))
              refine Go.st (fun _ k => XS.aload X.here hx rfl (hb hby at_291) rfl rfl k) ?_
              show Go p e below _ (T.setTop (mkF m 293 #[.val (.long p0), .second, .val (.long p1), .second, .val (.long p2), .second, .val (.int p3), .val (.int lA), .val (.int ca), .val (.int cb), .val (.int lB), .val (.int (0 : Int32)), .val (.int da), .val (.int db), .val (.ref o2), .val (.ref o3), .val (.ref o4), .val (.ref o5), .val (.ref o6), .val (.ref o7), .val (.int kd), .val (.int (0 : Int32))] [(.ref o6), (.ref o7)]))
              refine Go.virtV (K := "com/example/orgweave/orgweave/core/JsonValue") (z := (⟨"com/example/orgweave/orgweave/core/JsonValue", "equals", "(Ljava/lang/Object;)Z"⟩ : MethodName)) (argsL := [(.ref o6)]) (rest := []) (W := 0) (w := (.int (f_jeq (strL lB da db) (strL lA ca cb)))) X hx hZ hown (hml.trans rfl) hT A_o7 (hw _ (List.mem_of_getElem? (i := 70) rfl)) (hw _ (List.mem_of_getElem? (i := 71) rfl)) (hw _ (List.mem_of_getElem? (i := 73) rfl)) (hw _ (List.mem_of_getElem? (i := 72) rfl)) (by decide) pd_9 rfl rfl (Nat.le_of_ble_eq_true rfl) (hb hby at_293) (notFace_of_selects (args := #[]) (mvT hZ (hw _ (List.mem_of_getElem? (i := 73) rfl)))) (backOf (W := 0) (met_jeq l Z a0 hw [] z n0 o7 o6 o3 o2 (strL lB da db) (strL lA ca cb) _ O Sc A_o6 F_o7 F_o6 S_o3 S_o2) hZ (hw _ (List.mem_of_getElem? (i := 74) rfl)) (hw _ (List.mem_of_getElem? (i := 61) rfl)) (by decide) (by decide)) (by decide) (by decide) ?_
              intro T hT X
              show Go p e below _ (T.setTop (mkF m 296 #[.val (.long p0), .second, .val (.long p1), .second, .val (.long p2), .second, .val (.int p3), .val (.int lA), .val (.int ca), .val (.int cb), .val (.int lB), .val (.int (0 : Int32)), .val (.int da), .val (.int db), .val (.ref o2), .val (.ref o3), .val (.ref o4), .val (.ref o5), .val (.ref o6), .val (.ref o7), .val (.int kd), .val (.int (0 : Int32))] [(.int (f_jeq (strL lB da db) (strL lA ca cb)))]))
              refine Go.st (fun _ k => XS.iload X.here hx rfl (hb hby at_296) rfl k) ?_
              show Go p e below _ (T.setTop (mkF m 298 #[.val (.long p0), .second, .val (.long p1), .second, .val (.long p2), .second, .val (.int p3), .val (.int lA), .val (.int ca), .val (.int cb), .val (.int lB), .val (.int (0 : Int32)), .val (.int da), .val (.int db), .val (.ref o2), .val (.ref o3), .val (.ref o4), .val (.ref o5), .val (.ref o6), .val (.ref o7), .val (.int kd), .val (.int (0 : Int32))] [(.int (0 : Int32)), (.int (f_jeq (strL lB da db) (strL lA ca cb)))]))
              refine Go.st (fun _ k => XS.icmpNo X.here hx rfl (hb hby at_298) rfl (Jvm.Free.XT.ii_ne_f (own_jeq0S (own_3 hlA) (own_3 hlB) (own_m16 hca) (own_m16 hcb) (own_m16 hda) (own_m16 hdb) (fun q => q.2.2.elim hc11 hc12) : (f_jeq (strL lB da db) (strL lA ca cb)) = (0 : Int32))) k) ?_
              show Go p e below _ (T.setTop (mkF m 301 #[.val (.long p0), .second, .val (.long p1), .second, .val (.long p2), .second, .val (.int p3), .val (.int lA), .val (.int ca), .val (.int cb), .val (.int lB), .val (.int (0 : Int32)), .val (.int da), .val (.int db), .val (.ref o2), .val (.ref o3), .val (.ref o4), .val (.ref o5), .val (.ref o6), .val (.ref o7), .val (.int kd), .val (.int (0 : Int32))] []))
              refine Go.st (fun _ k => XS.iconst X.here hx rfl (hb hby at_301) k) ?_
              show Go p e below _ (T.setTop (mkF m 302 #[.val (.long p0), .second, .val (.long p1), .second, .val (.long p2), .second, .val (.int p3), .val (.int lA), .val (.int ca), .val (.int cb), .val (.int lB), .val (.int (0 : Int32)), .val (.int da), .val (.int db), .val (.ref o2), .val (.ref o3), .val (.ref o4), .val (.ref o5), .val (.ref o6), .val (.ref o7), .val (.int kd), .val (.int (0 : Int32))] [(.int (1 : Int32))]))
              refine Go.st (fun _ k => XS.goto X.here hx rfl (pc0 := 302) (pc' := 306) rfl (hb hby at_302) (by decide) (by decide) k) ?_
              show Go p e below _ (T.setTop (mkF m 306 #[.val (.long p0), .second, .val (.long p1), .second, .val (.long p2), .second, .val (.int p3), .val (.int lA), .val (.int ca), .val (.int cb), .val (.int lB), .val (.int (0 : Int32)), .val (.int da), .val (.int db), .val (.ref o2), .val (.ref o3), .val (.ref o4), .val (.ref o5), .val (.ref o6), .val (.ref o7), .val (.int kd), .val (.int (0 : Int32))] [(.int (1 : Int32))]))
              refine Go.retH hEL H hZ X hx hlk hT hret (by decide) (riI (by simp)) (hb hby at_306) (by decide) (by decide) ?_
              exact ⟨rfl, N⟩
        · refine Go.st (fun _ k => XS.icmpNo X.here hx rfl (hb hby at_247) rfl (Jvm.Free.XT.ii_lt_f hc10) k) ?_
          show Go p e below _ (T.setTop (mkF m 250 #[.val (.long p0), .second, .val (.long p1), .second, .val (.long p2), .second, .val (.int p3), .val (.int lA), .val (.int ca), .val (.int cb), .val (.int lB), .val (.int (0 : Int32)), .val (.int da), .val (.int db), .val (.ref o2), .val (.ref o3), .val (.ref o4), .val (.ref o5), .val (.ref o6), .val (.ref o7), .val (.int kd), .unset] []))
          refine Go.st (fun _ k => XS.iload X.here hx rfl (hb hby at_250) rfl k) ?_
          show Go p e below _ (T.setTop (mkF m 252 #[.val (.long p0), .second, .val (.long p1), .second, .val (.long p2), .second, .val (.int p3), .val (.int lA), .val (.int ca), .val (.int cb), .val (.int lB), .val (.int (0 : Int32)), .val (.int da), .val (.int db), .val (.ref o2), .val (.ref o3), .val (.ref o4), .val (.ref o5), .val (.ref o6), .val (.ref o7), .val (.int kd), .unset] [(.int ca)]))
          refine Go.st (fun _ k => XS.iload X.here hx rfl (hb hby at_252) rfl k) ?_
          show Go p e below _ (T.setTop (mkF m 254 #[.val (.long p0), .second, .val (.long p1), .second, .val (.long p2), .second, .val (.int p3), .val (.int lA), .val (.int ca), .val (.int cb), .val (.int lB), .val (.int (0 : Int32)), .val (.int da), .val (.int db), .val (.ref o2), .val (.ref o3), .val (.ref o4), .val (.ref o5), .val (.ref o6), .val (.ref o7), .val (.int kd), .unset] [(.int da), (.int ca)]))
          by_cases hc13 : ca = da
          · refine Go.st (fun _ k => XS.icmpNo X.here hx rfl (hb hby at_254) rfl (Jvm.Free.XT.ii_ne_f hc13) k) ?_
            show Go p e below _ (T.setTop (mkF m 257 #[.val (.long p0), .second, .val (.long p1), .second, .val (.long p2), .second, .val (.int p3), .val (.int lA), .val (.int ca), .val (.int cb), .val (.int lB), .val (.int (0 : Int32)), .val (.int da), .val (.int db), .val (.ref o2), .val (.ref o3), .val (.ref o4), .val (.ref o5), .val (.ref o6), .val (.ref o7), .val (.int kd), .unset] []))
            refine Go.st (fun _ k => XS.iload X.here hx rfl (hb hby at_257) rfl k) ?_
            show Go p e below _ (T.setTop (mkF m 259 #[.val (.long p0), .second, .val (.long p1), .second, .val (.long p2), .second, .val (.int p3), .val (.int lA), .val (.int ca), .val (.int cb), .val (.int lB), .val (.int (0 : Int32)), .val (.int da), .val (.int db), .val (.ref o2), .val (.ref o3), .val (.ref o4), .val (.ref o5), .val (.ref o6), .val (.ref o7), .val (.int kd), .unset] [(.int lA)]))
            refine Go.st (fun _ k => XS.iconst X.here hx rfl (hb hby at_259) k) ?_
            show Go p e below _ (T.setTop (mkF m 260 #[.val (.long p0), .second, .val (.long p1), .second, .val (.long p2), .second, .val (.int p3), .val (.int lA), .val (.int ca), .val (.int cb), .val (.int lB), .val (.int (0 : Int32)), .val (.int da), .val (.int db), .val (.ref o2), .val (.ref o3), .val (.ref o4), .val (.ref o5), .val (.ref o6), .val (.ref o7), .val (.int kd), .unset] [(.int (2 : Int32)), (.int lA)]))
            by_cases hc14 : lA < (2 : Int32)
            · refine Go.st (fun _ k => XS.icmpYes X.here hx rfl (pc0 := 260) (pc' := 270) rfl (hb hby at_260) rfl (Jvm.Free.XT.ii_lt_t hc14) (by decide) (by decide) k) ?_
              show Go p e below _ (T.setTop (mkF m 270 #[.val (.long p0), .second, .val (.long p1), .second, .val (.long p2), .second, .val (.int p3), .val (.int lA), .val (.int ca), .val (.int cb), .val (.int lB), .val (.int (0 : Int32)), .val (.int da), .val (.int db), .val (.ref o2), .val (.ref o3), .val (.ref o4), .val (.ref o5), .val (.ref o6), .val (.ref o7), .val (.int kd), .unset] []))
              refine Go.st (fun _ k => XS.iconst X.here hx rfl (hb hby at_270) k) ?_
              show Go p e below _ (T.setTop (mkF m 271 #[.val (.long p0), .second, .val (.long p1), .second, .val (.long p2), .second, .val (.int p3), .val (.int lA), .val (.int ca), .val (.int cb), .val (.int lB), .val (.int (0 : Int32)), .val (.int da), .val (.int db), .val (.ref o2), .val (.ref o3), .val (.ref o4), .val (.ref o5), .val (.ref o6), .val (.ref o7), .val (.int kd), .unset] [(.int (1 : Int32))]))
              refine Go.st (fun _ k => XS.goto X.here hx rfl (pc0 := 271) (pc' := 275) rfl (hb hby at_271) (by decide) (by decide) k) ?_
              show Go p e below _ (T.setTop (mkF m 275 #[.val (.long p0), .second, .val (.long p1), .second, .val (.long p2), .second, .val (.int p3), .val (.int lA), .val (.int ca), .val (.int cb), .val (.int lB), .val (.int (0 : Int32)), .val (.int da), .val (.int db), .val (.ref o2), .val (.ref o3), .val (.ref o4), .val (.ref o5), .val (.ref o6), .val (.ref o7), .val (.int kd), .unset] [(.int (1 : Int32))]))
              refine Go.st (fun _ k => XS.istore X.here hx rfl (hb hby at_275) rfl (l' := #[.val (.long p0), .second, .val (.long p1), .second, .val (.long p2), .second, .val (.int p3), .val (.int lA), .val (.int ca), .val (.int cb), .val (.int lB), .val (.int (0 : Int32)), .val (.int da), .val (.int db), .val (.ref o2), .val (.ref o3), .val (.ref o4), .val (.ref o5), .val (.ref o6), .val (.ref o7), .val (.int kd), .val (.int (1 : Int32))]) rfl k) ?_
              show Go p e below _ (T.setTop (mkF m 277 #[.val (.long p0), .second, .val (.long p1), .second, .val (.long p2), .second, .val (.int p3), .val (.int lA), .val (.int ca), .val (.int cb), .val (.int lB), .val (.int (0 : Int32)), .val (.int da), .val (.int db), .val (.ref o2), .val (.ref o3), .val (.ref o4), .val (.ref o5), .val (.ref o6), .val (.ref o7), .val (.int kd), .val (.int (1 : Int32))] []))
              refine Go.st (fun _ k => XS.aload X.here hx rfl (hb hby at_277) rfl rfl k) ?_
              show Go p e below _ (T.setTop (mkF m 279 #[.val (.long p0), .second, .val (.long p1), .second, .val (.long p2), .second, .val (.int p3), .val (.int lA), .val (.int ca), .val (.int cb), .val (.int lB), .val (.int (0 : Int32)), .val (.int da), .val (.int db), .val (.ref o2), .val (.ref o3), .val (.ref o4), .val (.ref o5), .val (.ref o6), .val (.ref o7), .val (.int kd), .val (.int (1 : Int32))] [(.ref o6)]))
              refine Go.st (fun _ k => XS.aload X.here hx rfl (hb hby at_279) rfl rfl k) ?_
              show Go p e below _ (T.setTop (mkF m 281 #[.val (.long p0), .second, .val (.long p1), .second, .val (.long p2), .second, .val (.int p3), .val (.int lA), .val (.int ca), .val (.int cb), .val (.int lB), .val (.int (0 : Int32)), .val (.int da), .val (.int db), .val (.ref o2), .val (.ref o3), .val (.ref o4), .val (.ref o5), .val (.ref o6), .val (.ref o7), .val (.int kd), .val (.int (1 : Int32))] [(.ref o7), (.ref o6)]))
              refine Go.virtV (K := "com/example/orgweave/orgweave/core/JsonValue") (z := (⟨"com/example/orgweave/orgweave/core/JsonValue", "equals", "(Ljava/lang/Object;)Z"⟩ : MethodName)) (argsL := [(.ref o7)]) (rest := []) (W := 0) (w := (.int (f_jeq (strL lA ca cb) (strL lB da db)))) X hx hZ hown (hml.trans rfl) hT A_o6 (hw _ (List.mem_of_getElem? (i := 70) rfl)) (hw _ (List.mem_of_getElem? (i := 71) rfl)) (hw _ (List.mem_of_getElem? (i := 73) rfl)) (hw _ (List.mem_of_getElem? (i := 72) rfl)) (by decide) pd_9 rfl rfl (Nat.le_of_ble_eq_true rfl) (hb hby at_281) (notFace_of_selects (args := #[]) (mvT hZ (hw _ (List.mem_of_getElem? (i := 73) rfl)))) (backOf (W := 0) (met_jeq l Z a0 hw [] z n0 o6 o7 o2 o3 (strL lA ca cb) (strL lB da db) _ O Sc A_o7 F_o6 F_o7 S_o2 S_o3) hZ (hw _ (List.mem_of_getElem? (i := 74) rfl)) (hw _ (List.mem_of_getElem? (i := 61) rfl)) (by decide) (by decide)) (by decide) (by decide) ?_
              intro T hT X
              show Go p e below _ (T.setTop (mkF m 284 #[.val (.long p0), .second, .val (.long p1), .second, .val (.long p2), .second, .val (.int p3), .val (.int lA), .val (.int ca), .val (.int cb), .val (.int lB), .val (.int (0 : Int32)), .val (.int da), .val (.int db), .val (.ref o2), .val (.ref o3), .val (.ref o4), .val (.ref o5), .val (.ref o6), .val (.ref o7), .val (.int kd), .val (.int (1 : Int32))] [(.int (f_jeq (strL lA ca cb) (strL lB da db)))]))
              refine Go.st (fun _ k => XS.iload X.here hx rfl (hb hby at_284) rfl k) ?_
              show Go p e below _ (T.setTop (mkF m 286 #[.val (.long p0), .second, .val (.long p1), .second, .val (.long p2), .second, .val (.int p3), .val (.int lA), .val (.int ca), .val (.int cb), .val (.int lB), .val (.int (0 : Int32)), .val (.int da), .val (.int db), .val (.ref o2), .val (.ref o3), .val (.ref o4), .val (.ref o5), .val (.ref o6), .val (.ref o7), .val (.int kd), .val (.int (1 : Int32))] [(.int (1 : Int32)), (.int (f_jeq (strL lA ca cb) (strL lB da db)))]))
              refine Go.st (fun _ k => XS.icmpNo X.here hx rfl (hb hby at_286) rfl (Jvm.Free.XT.ii_ne_f (own_jeq1 (own_3 hlA) (own_3 hlB) (own_m16 hca) (own_m16 hcb) (own_m16 hda) (own_m16 hdb) ⟨hc9, Or.inr hc13, Or.inl hc14⟩ : (f_jeq (strL lA ca cb) (strL lB da db)) = (1 : Int32))) k) ?_
              show Go p e below _ (T.setTop (mkF m 289 #[.val (.long p0), .second, .val (.long p1), .second, .val (.long p2), .second, .val (.int p3), .val (.int lA), .val (.int ca), .val (.int cb), .val (.int lB), .val (.int (0 : Int32)), .val (.int da), .val (.int db), .val (.ref o2), .val (.ref o3), .val (.ref o4), .val (.ref o5), .val (.ref o6), .val (.ref o7), .val (.int kd), .val (.int (1 : Int32))] []))
              refine Go.st (fun _ k => XS.aload X.here hx rfl (hb hby at_289) rfl rfl k) ?_
              show Go p e below _ (T.setTop (mkF m 291 #[.val (.long p0), .second, .val (.long p1), .second, .val (.long p2), .second, .val (.int p3), .val (.int lA), .val (.int ca), .val (.int cb), .val (.int lB), .val (.int (0 : Int32)), .val (.int da), .val (.int db), .val (.ref o2), .val (.ref o3), .val (.ref o4), .val (.ref o5), .val (.ref o6), .val (.ref o7), .val (.int kd), .val (.int (1 : Int32))] [(.ref o7)]))
              refine Go.st (fun _ k => XS.aload X.here hx rfl (hb hby at_291) rfl rfl k) ?_
              show Go p e below _ (T.setTop (mkF m 293 #[.val (.long p0), .second, .val (.long p1), .second, .val (.long p2), .second, .val (.int p3), .val (.int lA), .val (.int ca), .val (.int cb), .val (.int lB), .val (.int (0 : Int32)), .val (.int da), .val (.int db), .val (.ref o2), .val (.ref o3), .val (.ref o4), .val (.ref o5), .val (.ref o6), .val (.ref o7), .val (.int kd), .val (.int (1 : Int32))] [(.ref o6), (.ref o7)]))
              refine Go.virtV (K := "com/example/orgweave/orgweave/core/JsonValue") (z := (⟨"com/example/orgweave/orgweave/core/JsonValue", "equals", "(Ljava/lang/Object;)Z"⟩ : MethodName)) (argsL := [(.ref o6)]) (rest := []) (W := 0) (w := (.int (f_jeq (strL lB da db) (strL lA ca cb)))) X hx hZ hown (hml.trans rfl) hT A_o7 (hw _ (List.mem_of_getElem? (i := 70) rfl)) (hw _ (List.mem_of_getElem? (i := 71) rfl)) (hw _ (List.mem_of_getElem? (i := 73) rfl)) (hw _ (List.mem_of_getElem? (i := 72) rfl)) (by decide) pd_9 rfl rfl (Nat.le_of_ble_eq_true rfl) (hb hby at_293) (notFace_of_selects (args := #[]) (mvT hZ (hw _ (List.mem_of_getElem? (i := 73) rfl)))) (backOf (W := 0) (met_jeq l Z a0 hw [] z n0 o7 o6 o3 o2 (strL lB da db) (strL lA ca cb) _ O Sc A_o6 F_o7 F_o6 S_o3 S_o2) hZ (hw _ (List.mem_of_getElem? (i := 74) rfl)) (hw _ (List.mem_of_getElem? (i := 61) rfl)) (by decide) (by decide)) (by decide) (by decide) ?_
              intro T hT X
              show Go p e below _ (T.setTop (mkF m 296 #[.val (.long p0), .second, .val (.long p1), .second, .val (.long p2), .second, .val (.int p3), .val (.int lA), .val (.int ca), .val (.int cb), .val (.int lB), .val (.int (0 : Int32)), .val (.int da), .val (.int db), .val (.ref o2), .val (.ref o3), .val (.ref o4), .val (.ref o5), .val (.ref o6), .val (.ref o7), .val (.int kd), .val (.int (1 : Int32))] [(.int (f_jeq (strL lB da db) (strL lA ca cb)))]))
              refine Go.st (fun _ k => XS.iload X.here hx rfl (hb hby at_296) rfl k) ?_
              show Go p e below _ (T.setTop (mkF m 298 #[.val (.long p0), .second, .val (.long p1), .second, .val (.long p2), .second, .val (.int p3), .val (.int lA), .val (.int ca), .val (.int cb), .val (.int lB), .val (.int (0 : Int32)), .val (.int da), .val (.int db), .val (.ref o2), .val (.ref o3), .val (.ref o4), .val (.ref o5), .val (.ref o6), .val (.ref o7), .val (.int kd), .val (.int (1 : Int32))] [(.int (1 : Int32)), (.int (f_jeq (strL lB da db) (strL lA ca cb)))]))
              refine Go.st (fun _ k => XS.icmpNo X.here hx rfl (hb hby at_298) rfl (Jvm.Free.XT.ii_ne_f (own_jeq1S (own_3 hlA) (own_3 hlB) (own_m16 hca) (own_m16 hcb) (own_m16 hda) (own_m16 hdb) ⟨hc9, Or.inr hc13, Or.inl hc14⟩ : (f_jeq (strL lB da db) (strL lA ca cb)) = (1 : Int32))) k) ?_
              show Go p e below _ (T.setTop (mkF m 301 #[.val (.long p0), .second, .val (.long p1), .second, .val (.long p2), .second, .val (.int p3), .val (.int lA), .val (.int ca), .val (.int cb), .val (.int lB), .val (.int (0 : Int32)), .val (.int da), .val (.int db), .val (.ref o2), .val (.ref o3), .val (.ref o4), .val (.ref o5), .val (.ref o6), .val (.ref o7), .val (.int kd), .val (.int (1 : Int32))] []))
              refine Go.st (fun _ k => XS.iconst X.here hx rfl (hb hby at_301) k) ?_
              show Go p e below _ (T.setTop (mkF m 302 #[.val (.long p0), .second, .val (.long p1), .second, .val (.long p2), .second, .val (.int p3), .val (.int lA), .val (.int ca), .val (.int cb), .val (.int lB), .val (.int (0 : Int32)), .val (.int da), .val (.int db), .val (.ref o2), .val (.ref o3), .val (.ref o4), .val (.ref o5), .val (.ref o6), .val (.ref o7), .val (.int kd), .val (.int (1 : Int32))] [(.int (1 : Int32))]))
              refine Go.st (fun _ k => XS.goto X.here hx rfl (pc0 := 302) (pc' := 306) rfl (hb hby at_302) (by decide) (by decide) k) ?_
              show Go p e below _ (T.setTop (mkF m 306 #[.val (.long p0), .second, .val (.long p1), .second, .val (.long p2), .second, .val (.int p3), .val (.int lA), .val (.int ca), .val (.int cb), .val (.int lB), .val (.int (0 : Int32)), .val (.int da), .val (.int db), .val (.ref o2), .val (.ref o3), .val (.ref o4), .val (.ref o5), .val (.ref o6), .val (.ref o7), .val (.int kd), .val (.int (1 : Int32))] [(.int (1 : Int32))]))
              refine Go.retH hEL H hZ X hx hlk hT hret (by decide) (riI (by simp)) (hb hby at_306) (by decide) (by decide) ?_
              exact ⟨rfl, N⟩
            · refine Go.st (fun _ k => XS.icmpNo X.here hx rfl (hb hby at_260) rfl (Jvm.Free.XT.ii_lt_f hc14) k) ?_
              show Go p e below _ (T.setTop (mkF m 263 #[.val (.long p0), .second, .val (.long p1), .second, .val (.long p2), .second, .val (.int p3), .val (.int lA), .val (.int ca), .val (.int cb), .val (.int lB), .val (.int (0 : Int32)), .val (.int da), .val (.int db), .val (.ref o2), .val (.ref o3), .val (.ref o4), .val (.ref o5), .val (.ref o6), .val (.ref o7), .val (.int kd), .unset] []))
              refine Go.st (fun _ k => XS.iload X.here hx rfl (hb hby at_263) rfl k) ?_
              show Go p e below _ (T.setTop (mkF m 265 #[.val (.long p0), .second, .val (.long p1), .second, .val (.long p2), .second, .val (.int p3), .val (.int lA), .val (.int ca), .val (.int cb), .val (.int lB), .val (.int (0 : Int32)), .val (.int da), .val (.int db), .val (.ref o2), .val (.ref o3), .val (.ref o4), .val (.ref o5), .val (.ref o6), .val (.ref o7), .val (.int kd), .unset] [(.int cb)]))
              refine Go.st (fun _ k => XS.iload X.here hx rfl (hb hby at_265) rfl k) ?_
              show Go p e below _ (T.setTop (mkF m 267 #[.val (.long p0), .second, .val (.long p1), .second, .val (.long p2), .second, .val (.int p3), .val (.int lA), .val (.int ca), .val (.int cb), .val (.int lB), .val (.int (0 : Int32)), .val (.int da), .val (.int db), .val (.ref o2), .val (.ref o3), .val (.ref o4), .val (.ref o5), .val (.ref o6), .val (.ref o7), .val (.int kd), .unset] [(.int db), (.int cb)]))
              by_cases hc15 : cb = db
              · refine Go.st (fun _ k => XS.icmpNo X.here hx rfl (hb hby at_267) rfl (Jvm.Free.XT.ii_ne_f hc15) k) ?_
                show Go p e below _ (T.setTop (mkF m 270 #[.val (.long p0), .second, .val (.long p1), .second, .val (.long p2), .second, .val (.int p3), .val (.int lA), .val (.int ca), .val (.int cb), .val (.int lB), .val (.int (0 : Int32)), .val (.int da), .val (.int db), .val (.ref o2), .val (.ref o3), .val (.ref o4), .val (.ref o5), .val (.ref o6), .val (.ref o7), .val (.int kd), .unset] []))
                refine Go.st (fun _ k => XS.iconst X.here hx rfl (hb hby at_270) k) ?_
                show Go p e below _ (T.setTop (mkF m 271 #[.val (.long p0), .second, .val (.long p1), .second, .val (.long p2), .second, .val (.int p3), .val (.int lA), .val (.int ca), .val (.int cb), .val (.int lB), .val (.int (0 : Int32)), .val (.int da), .val (.int db), .val (.ref o2), .val (.ref o3), .val (.ref o4), .val (.ref o5), .val (.ref o6), .val (.ref o7), .val (.int kd), .unset] [(.int (1 : Int32))]))
                refine Go.st (fun _ k => XS.goto X.here hx rfl (pc0 := 271) (pc' := 275) rfl (hb hby at_271) (by decide) (by decide) k) ?_
                show Go p e below _ (T.setTop (mkF m 275 #[.val (.long p0), .second, .val (.long p1), .second, .val (.long p2), .second, .val (.int p3), .val (.int lA), .val (.int ca), .val (.int cb), .val (.int lB), .val (.int (0 : Int32)), .val (.int da), .val (.int db), .val (.ref o2), .val (.ref o3), .val (.ref o4), .val (.ref o5), .val (.ref o6), .val (.ref o7), .val (.int kd), .unset] [(.int (1 : Int32))]))
                refine Go.st (fun _ k => XS.istore X.here hx rfl (hb hby at_275) rfl (l' := #[.val (.long p0), .second, .val (.long p1), .second, .val (.long p2), .second, .val (.int p3), .val (.int lA), .val (.int ca), .val (.int cb), .val (.int lB), .val (.int (0 : Int32)), .val (.int da), .val (.int db), .val (.ref o2), .val (.ref o3), .val (.ref o4), .val (.ref o5), .val (.ref o6), .val (.ref o7), .val (.int kd), .val (.int (1 : Int32))]) rfl k) ?_
                show Go p e below _ (T.setTop (mkF m 277 #[.val (.long p0), .second, .val (.long p1), .second, .val (.long p2), .second, .val (.int p3), .val (.int lA), .val (.int ca), .val (.int cb), .val (.int lB), .val (.int (0 : Int32)), .val (.int da), .val (.int db), .val (.ref o2), .val (.ref o3), .val (.ref o4), .val (.ref o5), .val (.ref o6), .val (.ref o7), .val (.int kd), .val (.int (1 : Int32))] []))
                refine Go.st (fun _ k => XS.aload X.here hx rfl (hb hby at_277) rfl rfl k) ?_
                show Go p e below _ (T.setTop (mkF m 279 #[.val (.long p0), .second, .val (.long p1), .second, .val (.long p2), .second, .val (.int p3), .val (.int lA), .val (.int ca), .val (.int cb), .val (.int lB), .val (.int (0 : Int32)), .val (.int da), .val (.int db), .val (.ref o2), .val (.ref o3), .val (.ref o4), .val (.ref o5), .val (.ref o6), .val (.ref o7), .val (.int kd), .val (.int (1 : Int32))] [(.ref o6)]))
                refine Go.st (fun _ k => XS.aload X.here hx rfl (hb hby at_279) rfl rfl k) ?_
                show Go p e below _ (T.setTop (mkF m 281 #[.val (.long p0), .second, .val (.long p1), .second, .val (.long p2), .second, .val (.int p3), .val (.int lA), .val (.int ca), .val (.int cb), .val (.int lB), .val (.int (0 : Int32)), .val (.int da), .val (.int db), .val (.ref o2), .val (.ref o3), .val (.ref o4), .val (.ref o5), .val (.ref o6), .val (.ref o7), .val (.int kd), .val (.int (1 : Int32))] [(.ref o7), (.ref o6)]))
                refine Go.virtV (K := "com/example/orgweave/orgweave/core/JsonValue") (z := (⟨"com/example/orgweave/orgweave/core/JsonValue", "equals", "(Ljava/lang/Object;)Z"⟩ : MethodName)) (argsL := [(.ref o7)]) (rest := []) (W := 0) (w := (.int (f_jeq (strL lA ca cb) (strL lB da db)))) X hx hZ hown (hml.trans rfl) hT A_o6 (hw _ (List.mem_of_getElem? (i := 70) rfl)) (hw _ (List.mem_of_getElem? (i := 71) rfl)) (hw _ (List.mem_of_getElem? (i := 73) rfl)) (hw _ (List.mem_of_getElem? (i := 72) rfl)) (by decide) pd_9 rfl rfl (Nat.le_of_ble_eq_true rfl) (hb hby at_281) (notFace_of_selects (args := #[]) (mvT hZ (hw _ (List.mem_of_getElem? (i := 73) rfl)))) (backOf (W := 0) (met_jeq l Z a0 hw [] z n0 o6 o7 o2 o3 (strL lA ca cb) (strL lB da db) _ O Sc A_o7 F_o6 F_o7 S_o2 S_o3) hZ (hw _ (List.mem_of_getElem? (i := 74) rfl)) (hw _ (List.mem_of_getElem? (i := 61) rfl)) (by decide) (by decide)) (by decide) (by decide) ?_
                intro T hT X
                show Go p e below _ (T.setTop (mkF m 284 #[.val (.long p0), .second, .val (.long p1), .second, .val (.long p2), .second, .val (.int p3), .val (.int lA), .val (.int ca), .val (.int cb), .val (.int lB), .val (.int (0 : Int32)), .val (.int da), .val (.int db), .val (.ref o2), .val (.ref o3), .val (.ref o4), .val (.ref o5), .val (.ref o6), .val (.ref o7), .val (.int kd), .val (.int (1 : Int32))] [(.int (f_jeq (strL lA ca cb) (strL lB da db)))]))
                refine Go.st (fun _ k => XS.iload X.here hx rfl (hb hby at_284) rfl k) ?_
                show Go p e below _ (T.setTop (mkF m 286 #[.val (.long p0), .second, .val (.long p1), .second, .val (.long p2), .second, .val (.int p3), .val (.int lA), .val (.int ca), .val (.int cb), .val (.int lB), .val (.int (0 : Int32)), .val (.int da), .val (.int db), .val (.ref o2), .val (.ref o3), .val (.ref o4), .val (.ref o5), .val (.ref o6), .val (.ref o7), .val (.int kd), .val (.int (1 : Int32))] [(.int (1 : Int32)), (.int (f_jeq (strL lA ca cb) (strL lB da db)))]))
                refine Go.st (fun _ k => XS.icmpNo X.here hx rfl (hb hby at_286) rfl (Jvm.Free.XT.ii_ne_f (own_jeq1 (own_3 hlA) (own_3 hlB) (own_m16 hca) (own_m16 hcb) (own_m16 hda) (own_m16 hdb) ⟨hc9, Or.inr hc13, Or.inr hc15⟩ : (f_jeq (strL lA ca cb) (strL lB da db)) = (1 : Int32))) k) ?_
                show Go p e below _ (T.setTop (mkF m 289 #[.val (.long p0), .second, .val (.long p1), .second, .val (.long p2), .second, .val (.int p3), .val (.int lA), .val (.int ca), .val (.int cb), .val (.int lB), .val (.int (0 : Int32)), .val (.int da), .val (.int db), .val (.ref o2), .val (.ref o3), .val (.ref o4), .val (.ref o5), .val (.ref o6), .val (.ref o7), .val (.int kd), .val (.int (1 : Int32))] []))
                refine Go.st (fun _ k => XS.aload X.here hx rfl (hb hby at_289) rfl rfl k) ?_
                show Go p e below _ (T.setTop (mkF m 291 #[.val (.long p0), .second, .val (.long p1), .second, .val (.long p2), .second, .val (.int p3), .val (.int lA), .val (.int ca), .val (.int cb), .val (.int lB), .val (.int (0 : Int32)), .val (.int da), .val (.int db), .val (.ref o2), .val (.ref o3), .val (.ref o4), .val (.ref o5), .val (.ref o6), .val (.ref o7), .val (.int kd), .val (.int (1 : Int32))] [(.ref o7)]))
                refine Go.st (fun _ k => XS.aload X.here hx rfl (hb hby at_291) rfl rfl k) ?_
                show Go p e below _ (T.setTop (mkF m 293 #[.val (.long p0), .second, .val (.long p1), .second, .val (.long p2), .second, .val (.int p3), .val (.int lA), .val (.int ca), .val (.int cb), .val (.int lB), .val (.int (0 : Int32)), .val (.int da), .val (.int db), .val (.ref o2), .val (.ref o3), .val (.ref o4), .val (.ref o5), .val (.ref o6), .val (.ref o7), .val (.int kd), .val (.int (1 : Int32))] [(.ref o6), (.ref o7)]))
                refine Go.virtV (K := "com/example/orgweave/orgweave/core/JsonValue") (z := (⟨"com/example/orgweave/orgweave/core/JsonValue", "equals", "(Ljava/lang/Object;)Z"⟩ : MethodName)) (argsL := [(.ref o6)]) (rest := []) (W := 0) (w := (.int (f_jeq (strL lB da db) (strL lA ca cb)))) X hx hZ hown (hml.trans rfl) hT A_o7 (hw _ (List.mem_of_getElem? (i := 70) rfl)) (hw _ (List.mem_of_getElem? (i := 71) rfl)) (hw _ (List.mem_of_getElem? (i := 73) rfl)) (hw _ (List.mem_of_getElem? (i := 72) rfl)) (by decide) pd_9 rfl rfl (Nat.le_of_ble_eq_true rfl) (hb hby at_293) (notFace_of_selects (args := #[]) (mvT hZ (hw _ (List.mem_of_getElem? (i := 73) rfl)))) (backOf (W := 0) (met_jeq l Z a0 hw [] z n0 o7 o6 o3 o2 (strL lB da db) (strL lA ca cb) _ O Sc A_o6 F_o7 F_o6 S_o3 S_o2) hZ (hw _ (List.mem_of_getElem? (i := 74) rfl)) (hw _ (List.mem_of_getElem? (i := 61) rfl)) (by decide) (by decide)) (by decide) (by decide) ?_
                intro T hT X
                show Go p e below _ (T.setTop (mkF m 296 #[.val (.long p0), .second, .val (.long p1), .second, .val (.long p2), .second, .val (.int p3), .val (.int lA), .val (.int ca), .val (.int cb), .val (.int lB), .val (.int (0 : Int32)), .val (.int da), .val (.int db), .val (.ref o2), .val (.ref o3), .val (.ref o4), .val (.ref o5), .val (.ref o6), .val (.ref o7), .val (.int kd), .val (.int (1 : Int32))] [(.int (f_jeq (strL lB da db) (strL lA ca cb)))]))
                refine Go.st (fun _ k => XS.iload X.here hx rfl (hb hby at_296) rfl k) ?_
                show Go p e below _ (T.setTop (mkF m 298 #[.val (.long p0), .second, .val (.long p1), .second, .val (.long p2), .second, .val (.int p3), .val (.int lA), .val (.int ca), .val (.int cb), .val (.int lB), .val (.int (0 : Int32)), .val (.int da), .val (.int db), .val (.ref o2), .val (.ref o3), .val (.ref o4), .val (.ref o5), .val (.ref o6), .val (.ref o7), .val (.int kd), .val (.int (1 : Int32))] [(.int (1 : Int32)), (.int (f_jeq (strL lB da db) (strL lA ca cb)))]))
                refine Go.st (fun _ k => XS.icmpNo X.here hx rfl (hb hby at_298) rfl (Jvm.Free.XT.ii_ne_f (own_jeq1S (own_3 hlA) (own_3 hlB) (own_m16 hca) (own_m16 hcb) (own_m16 hda) (own_m16 hdb) ⟨hc9, Or.inr hc13, Or.inr hc15⟩ : (f_jeq (strL lB da db) (strL lA ca cb)) = (1 : Int32))) k) ?_
                show Go p e below _ (T.setTop (mkF m 301 #[.val (.long p0), .second, .val (.long p1), .second, .val (.long p2), .second, .val (.int p3), .val (.int lA), .val (.int ca), .val (.int cb), .val (.int lB), .val (.int (0 : Int32)), .val (.int da), .val (.int db), .val (.ref o2), .val (.ref o3), .val (.ref o4), .val (.ref o5), .val (.ref o6), .val (.ref o7), .val (.int kd), .val (.int (1 : Int32))] []))
                refine Go.st (fun _ k => XS.iconst X.here hx rfl (hb hby at_301) k) ?_
                show Go p e below _ (T.setTop (mkF m 302 #[.val (.long p0), .second, .val (.long p1), .second, .val (.long p2), .second, .val (.int p3), .val (.int lA), .val (.int ca), .val (.int cb), .val (.int lB), .val (.int (0 : Int32)), .val (.int da), .val (.int db), .val (.ref o2), .val (.ref o3), .val (.ref o4), .val (.ref o5), .val (.ref o6), .val (.ref o7), .val (.int kd), .val (.int (1 : Int32))] [(.int (1 : Int32))]))
                refine Go.st (fun _ k => XS.goto X.here hx rfl (pc0 := 302) (pc' := 306) rfl (hb hby at_302) (by decide) (by decide) k) ?_
                show Go p e below _ (T.setTop (mkF m 306 #[.val (.long p0), .second, .val (.long p1), .second, .val (.long p2), .second, .val (.int p3), .val (.int lA), .val (.int ca), .val (.int cb), .val (.int lB), .val (.int (0 : Int32)), .val (.int da), .val (.int db), .val (.ref o2), .val (.ref o3), .val (.ref o4), .val (.ref o5), .val (.ref o6), .val (.ref o7), .val (.int kd), .val (.int (1 : Int32))] [(.int (1 : Int32))]))
                refine Go.retH hEL H hZ X hx hlk hT hret (by decide) (riI (by simp)) (hb hby at_306) (by decide) (by decide) ?_
                exact ⟨rfl, N⟩
              · refine Go.st (fun _ k => XS.icmpYes X.here hx rfl (pc0 := 267) (pc' := 274) rfl (hb hby at_267) rfl (Jvm.Free.XT.ii_ne_t hc15) (by decide) (by decide) k) ?_
                show Go p e below _ (T.setTop (mkF m 274 #[.val (.long p0), .second, .val (.long p1), .second, .val (.long p2), .second, .val (.int p3), .val (.int lA), .val (.int ca), .val (.int cb), .val (.int lB), .val (.int (0 : Int32)), .val (.int da), .val (.int db), .val (.ref o2), .val (.ref o3), .val (.ref o4), .val (.ref o5), .val (.ref o6), .val (.ref o7), .val (.int kd), .unset] []))
                refine Go.st (fun _ k => XS.iconst X.here hx rfl (hb hby at_274) k) ?_
                show Go p e below _ (T.setTop (mkF m 275 #[.val (.long p0), .second, .val (.long p1), .second, .val (.long p2), .second, .val (.int p3), .val (.int lA), .val (.int ca), .val (.int cb), .val (.int lB), .val (.int (0 : Int32)), .val (.int da), .val (.int db), .val (.ref o2), .val (.ref o3), .val (.ref o4), .val (.ref o5), .val (.ref o6), .val (.ref o7), .val (.int kd), .unset] [(.int (0 : Int32))]))
                refine Go.st (fun _ k => XS.istore X.here hx rfl (hb hby at_275) rfl (l' := #[.val (.long p0), .second, .val (.long p1), .second, .val (.long p2), .second, .val (.int p3), .val (.int lA), .val (.int ca), .val (.int cb), .val (.int lB), .val (.int (0 : Int32)), .val (.int da), .val (.int db), .val (.ref o2), .val (.ref o3), .val (.ref o4), .val (.ref o5), .val (.ref o6), .val (.ref o7), .val (.int kd), .val (.int (0 : Int32))]) rfl k) ?_
                show Go p e below _ (T.setTop (mkF m 277 #[.val (.long p0), .second, .val (.long p1), .second, .val (.long p2), .second, .val (.int p3), .val (.int lA), .val (.int ca), .val (.int cb), .val (.int lB), .val (.int (0 : Int32)), .val (.int da), .val (.int db), .val (.ref o2), .val (.ref o3), .val (.ref o4), .val (.ref o5), .val (.ref o6), .val (.ref o7), .val (.int kd), .val (.int (0 : Int32))] []))
                refine Go.st (fun _ k => XS.aload X.here hx rfl (hb hby at_277) rfl rfl k) ?_
                show Go p e below _ (T.setTop (mkF m 279 #[.val (.long p0), .second, .val (.long p1), .second, .val (.long p2), .second, .val (.int p3), .val (.int lA), .val (.int ca), .val (.int cb), .val (.int lB), .val (.int (0 : Int32)), .val (.int da), .val (.int db), .val (.ref o2), .val (.ref o3), .val (.ref o4), .val (.ref o5), .val (.ref o6), .val (.ref o7), .val (.int kd), .val (.int (0 : Int32))] [(.ref o6)]))
                refine Go.st (fun _ k => XS.aload X.here hx rfl (hb hby at_279) rfl rfl k) ?_
                show Go p e below _ (T.setTop (mkF m 281 #[.val (.long p0), .second, .val (.long p1), .second, .val (.long p2), .second, .val (.int p3), .val (.int lA), .val (.int ca), .val (.int cb), .val (.int lB), .val (.int (0 : Int32)), .val (.int da), .val (.int db), .val (.ref o2), .val (.ref o3), .val (.ref o4), .val (.ref o5), .val (.ref o6), .val (.ref o7), .val (.int kd), .val (.int (0 : Int32))] [(.ref o7), (.ref o6)]))
                refine Go.virtV (K := "com/example/orgweave/orgweave/core/JsonValue") (z := (⟨"com/example/orgweave/orgweave/core/JsonValue", "equals", "(Ljava/lang/Object;)Z"⟩ : MethodName)) (argsL := [(.ref o7)]) (rest := []) (W := 0) (w := (.int (f_jeq (strL lA ca cb) (strL lB da db)))) X hx hZ hown (hml.trans rfl) hT A_o6 (hw _ (List.mem_of_getElem? (i := 70) rfl)) (hw _ (List.mem_of_getElem? (i := 71) rfl)) (hw _ (List.mem_of_getElem? (i := 73) rfl)) (hw _ (List.mem_of_getElem? (i := 72) rfl)) (by decide) pd_9 rfl rfl (Nat.le_of_ble_eq_true rfl) (hb hby at_281) (notFace_of_selects (args := #[]) (mvT hZ (hw _ (List.mem_of_getElem? (i := 73) rfl)))) (backOf (W := 0) (met_jeq l Z a0 hw [] z n0 o6 o7 o2 o3 (strL lA ca cb) (strL lB da db) _ O Sc A_o7 F_o6 F_o7 S_o2 S_o3) hZ (hw _ (List.mem_of_getElem? (i := 74) rfl)) (hw _ (List.mem_of_getElem? (i := 61) rfl)) (by decide) (by decide)) (by decide) (by decide) ?_
                intro T hT X
                show Go p e below _ (T.setTop (mkF m 284 #[.val (.long p0), .second, .val (.long p1), .second, .val (.long p2), .second, .val (.int p3), .val (.int lA), .val (.int ca), .val (.int cb), .val (.int lB), .val (.int (0 : Int32)), .val (.int da), .val (.int db), .val (.ref o2), .val (.ref o3), .val (.ref o4), .val (.ref o5), .val (.ref o6), .val (.ref o7), .val (.int kd), .val (.int (0 : Int32))] [(.int (f_jeq (strL lA ca cb) (strL lB da db)))]))
                refine Go.st (fun _ k => XS.iload X.here hx rfl (hb hby at_284) rfl k) ?_
                show Go p e below _ (T.setTop (mkF m 286 #[.val (.long p0), .second, .val (.long p1), .second, .val (.long p2), .second, .val (.int p3), .val (.int lA), .val (.int ca), .val (.int cb), .val (.int lB), .val (.int (0 : Int32)), .val (.int da), .val (.int db), .val (.ref o2), .val (.ref o3), .val (.ref o4), .val (.ref o5), .val (.ref o6), .val (.ref o7), .val (.int kd), .val (.int (0 : Int32))] [(.int (0 : Int32)), (.int (f_jeq (strL lA ca cb) (strL lB da db)))]))
                refine Go.st (fun _ k => XS.icmpNo X.here hx rfl (hb hby at_286) rfl (Jvm.Free.XT.ii_ne_f (own_jeq0 (own_3 hlA) (own_3 hlB) (own_m16 hca) (own_m16 hcb) (own_m16 hda) (own_m16 hdb) (fun q => q.2.2.elim hc14 hc15) : (f_jeq (strL lA ca cb) (strL lB da db)) = (0 : Int32))) k) ?_
                show Go p e below _ (T.setTop (mkF m 289 #[.val (.long p0), .second, .val (.long p1), .second, .val (.long p2), .second, .val (.int p3), .val (.int lA), .val (.int ca), .val (.int cb), .val (.int lB), .val (.int (0 : Int32)), .val (.int da), .val (.int db), .val (.ref o2), .val (.ref o3), .val (.ref o4), .val (.ref o5), .val (.ref o6), .val (.ref o7), .val (.int kd), .val (.int (0 : Int32))] []))
                refine Go.st (fun _ k => XS.aload X.here hx rfl (hb hby at_289) rfl rfl k) ?_
                show Go p e below _ (T.setTop (mkF m 291 #[.val (.long p0), .second, .val (.long p1), .second, .val (.long p2), .second, .val (.int p3), .val (.int lA), .val (.int ca), .val (.int cb), .val (.int lB), .val (.int (0 : Int32)), .val (.int da), .val (.int db), .val (.ref o2), .val (.ref o3), .val (.ref o4), .val (.ref o5), .val (.ref o6), .val (.ref o7), .val (.int kd), .val (.int (0 : Int32))] [(.ref o7)]))
                refine Go.st (fun _ k => XS.aload X.here hx rfl (hb hby at_291) rfl rfl k) ?_
                show Go p e below _ (T.setTop (mkF m 293 #[.val (.long p0), .second, .val (.long p1), .second, .val (.long p2), .second, .val (.int p3), .val (.int lA), .val (.int ca), .val (.int cb), .val (.int lB), .val (.int (0 : Int32)), .val (.int da), .val (.int db), .val (.ref o2), .val (.ref o3), .val (.ref o4), .val (.ref o5), .val (.ref o6), .val (.ref o7), .val (.int kd), .val (.int (0 : Int32))] [(.ref o6), (.ref o7)]))
                refine Go.virtV (K := "com/example/orgweave/orgweave/core/JsonValue") (z := (⟨"com/example/orgweave/orgweave/core/JsonValue", "equals", "(Ljava/lang/Object;)Z"⟩ : MethodName)) (argsL := [(.ref o6)]) (rest := []) (W := 0) (w := (.int (f_jeq (strL lB da db) (strL lA ca cb)))) X hx hZ hown (hml.trans rfl) hT A_o7 (hw _ (List.mem_of_getElem? (i := 70) rfl)) (hw _ (List.mem_of_getElem? (i := 71) rfl)) (hw _ (List.mem_of_getElem? (i := 73) rfl)) (hw _ (List.mem_of_getElem? (i := 72) rfl)) (by decide) pd_9 rfl rfl (Nat.le_of_ble_eq_true rfl) (hb hby at_293) (notFace_of_selects (args := #[]) (mvT hZ (hw _ (List.mem_of_getElem? (i := 73) rfl)))) (backOf (W := 0) (met_jeq l Z a0 hw [] z n0 o7 o6 o3 o2 (strL lB da db) (strL lA ca cb) _ O Sc A_o6 F_o7 F_o6 S_o3 S_o2) hZ (hw _ (List.mem_of_getElem? (i := 74) rfl)) (hw _ (List.mem_of_getElem? (i := 61) rfl)) (by decide) (by decide)) (by decide) (by decide) ?_
                intro T hT X
                show Go p e below _ (T.setTop (mkF m 296 #[.val (.long p0), .second, .val (.long p1), .second, .val (.long p2), .second, .val (.int p3), .val (.int lA), .val (.int ca), .val (.int cb), .val (.int lB), .val (.int (0 : Int32)), .val (.int da), .val (.int db), .val (.ref o2), .val (.ref o3), .val (.ref o4), .val (.ref o5), .val (.ref o6), .val (.ref o7), .val (.int kd), .val (.int (0 : Int32))] [(.int (f_jeq (strL lB da db) (strL lA ca cb)))]))
                refine Go.st (fun _ k => XS.iload X.here hx rfl (hb hby at_296) rfl k) ?_
                show Go p e below _ (T.setTop (mkF m 298 #[.val (.long p0), .second, .val (.long p1), .second, .val (.long p2), .second, .val (.int p3), .val (.int lA), .val (.int ca), .val (.int cb), .val (.int lB), .val (.int (0 : Int32)), .val (.int da), .val (.int db), .val (.ref o2), .val (.ref o3), .val (.ref o4), .val (.ref o5), .val (.ref o6), .val (.ref o7), .val (.int kd), .val (.int (0 : Int32))] [(.int (0 : Int32)), (.int (f_jeq (strL lB da db) (strL lA ca cb)))]))
                refine Go.st (fun _ k => XS.icmpNo X.here hx rfl (hb hby at_298) rfl (Jvm.Free.XT.ii_ne_f (own_jeq0S (own_3 hlA) (own_3 hlB) (own_m16 hca) (own_m16 hcb) (own_m16 hda) (own_m16 hdb) (fun q => q.2.2.elim hc14 hc15) : (f_jeq (strL lB da db) (strL lA ca cb)) = (0 : Int32))) k) ?_
                show Go p e below _ (T.setTop (mkF m 301 #[.val (.long p0), .second, .val (.long p1), .second, .val (.long p2), .second, .val (.int p3), .val (.int lA), .val (.int ca), .val (.int cb), .val (.int lB), .val (.int (0 : Int32)), .val (.int da), .val (.int db), .val (.ref o2), .val (.ref o3), .val (.ref o4), .val (.ref o5), .val (.ref o6), .val (.ref o7), .val (.int kd), .val (.int (0 : Int32))] []))
                refine Go.st (fun _ k => XS.iconst X.here hx rfl (hb hby at_301) k) ?_
                show Go p e below _ (T.setTop (mkF m 302 #[.val (.long p0), .second, .val (.long p1), .second, .val (.long p2), .second, .val (.int p3), .val (.int lA), .val (.int ca), .val (.int cb), .val (.int lB), .val (.int (0 : Int32)), .val (.int da), .val (.int db), .val (.ref o2), .val (.ref o3), .val (.ref o4), .val (.ref o5), .val (.ref o6), .val (.ref o7), .val (.int kd), .val (.int (0 : Int32))] [(.int (1 : Int32))]))
                refine Go.st (fun _ k => XS.goto X.here hx rfl (pc0 := 302) (pc' := 306) rfl (hb hby at_302) (by decide) (by decide) k) ?_
                show Go p e below _ (T.setTop (mkF m 306 #[.val (.long p0), .second, .val (.long p1), .second, .val (.long p2), .second, .val (.int p3), .val (.int lA), .val (.int ca), .val (.int cb), .val (.int lB), .val (.int (0 : Int32)), .val (.int da), .val (.int db), .val (.ref o2), .val (.ref o3), .val (.ref o4), .val (.ref o5), .val (.ref o6), .val (.ref o7), .val (.int kd), .val (.int (0 : Int32))] [(.int (1 : Int32))]))
                refine Go.retH hEL H hZ X hx hlk hT hret (by decide) (riI (by simp)) (hb hby at_306) (by decide) (by decide) ?_
                exact ⟨rfl, N⟩
          · refine Go.st (fun _ k => XS.icmpYes X.here hx rfl (pc0 := 254) (pc' := 274) rfl (hb hby at_254) rfl (Jvm.Free.XT.ii_ne_t hc13) (by decide) (by decide) k) ?_
            show Go p e below _ (T.setTop (mkF m 274 #[.val (.long p0), .second, .val (.long p1), .second, .val (.long p2), .second, .val (.int p3), .val (.int lA), .val (.int ca), .val (.int cb), .val (.int lB), .val (.int (0 : Int32)), .val (.int da), .val (.int db), .val (.ref o2), .val (.ref o3), .val (.ref o4), .val (.ref o5), .val (.ref o6), .val (.ref o7), .val (.int kd), .unset] []))
            refine Go.st (fun _ k => XS.iconst X.here hx rfl (hb hby at_274) k) ?_
            show Go p e below _ (T.setTop (mkF m 275 #[.val (.long p0), .second, .val (.long p1), .second, .val (.long p2), .second, .val (.int p3), .val (.int lA), .val (.int ca), .val (.int cb), .val (.int lB), .val (.int (0 : Int32)), .val (.int da), .val (.int db), .val (.ref o2), .val (.ref o3), .val (.ref o4), .val (.ref o5), .val (.ref o6), .val (.ref o7), .val (.int kd), .unset] [(.int (0 : Int32))]))
            refine Go.st (fun _ k => XS.istore X.here hx rfl (hb hby at_275) rfl (l' := #[.val (.long p0), .second, .val (.long p1), .second, .val (.long p2), .second, .val (.int p3), .val (.int lA), .val (.int ca), .val (.int cb), .val (.int lB), .val (.int (0 : Int32)), .val (.int da), .val (.int db), .val (.ref o2), .val (.ref o3), .val (.ref o4), .val (.ref o5), .val (.ref o6), .val (.ref o7), .val (.int kd), .val (.int (0 : Int32))]) rfl k) ?_
            show Go p e below _ (T.setTop (mkF m 277 #[.val (.long p0), .second, .val (.long p1), .second, .val (.long p2), .second, .val (.int p3), .val (.int lA), .val (.int ca), .val (.int cb), .val (.int lB), .val (.int (0 : Int32)), .val (.int da), .val (.int db), .val (.ref o2), .val (.ref o3), .val (.ref o4), .val (.ref o5), .val (.ref o6), .val (.ref o7), .val (.int kd), .val (.int (0 : Int32))] []))
            refine Go.st (fun _ k => XS.aload X.here hx rfl (hb hby at_277) rfl rfl k) ?_
            show Go p e below _ (T.setTop (mkF m 279 #[.val (.long p0), .second, .val (.long p1), .second, .val (.long p2), .second, .val (.int p3), .val (.int lA), .val (.int ca), .val (.int cb), .val (.int lB), .val (.int (0 : Int32)), .val (.int da), .val (.int db), .val (.ref o2), .val (.ref o3), .val (.ref o4), .val (.ref o5), .val (.ref o6), .val (.ref o7), .val (.int kd), .val (.int (0 : Int32))] [(.ref o6)]))
            refine Go.st (fun _ k => XS.aload X.here hx rfl (hb hby at_279) rfl rfl k) ?_
            show Go p e below _ (T.setTop (mkF m 281 #[.val (.long p0), .second, .val (.long p1), .second, .val (.long p2), .second, .val (.int p3), .val (.int lA), .val (.int ca), .val (.int cb), .val (.int lB), .val (.int (0 : Int32)), .val (.int da), .val (.int db), .val (.ref o2), .val (.ref o3), .val (.ref o4), .val (.ref o5), .val (.ref o6), .val (.ref o7), .val (.int kd), .val (.int (0 : Int32))] [(.ref o7), (.ref o6)]))
            refine Go.virtV (K := "com/example/orgweave/orgweave/core/JsonValue") (z := (⟨"com/example/orgweave/orgweave/core/JsonValue", "equals", "(Ljava/lang/Object;)Z"⟩ : MethodName)) (argsL := [(.ref o7)]) (rest := []) (W := 0) (w := (.int (f_jeq (strL lA ca cb) (strL lB da db)))) X hx hZ hown (hml.trans rfl) hT A_o6 (hw _ (List.mem_of_getElem? (i := 70) rfl)) (hw _ (List.mem_of_getElem? (i := 71) rfl)) (hw _ (List.mem_of_getElem? (i := 73) rfl)) (hw _ (List.mem_of_getElem? (i := 72) rfl)) (by decide) pd_9 rfl rfl (Nat.le_of_ble_eq_true rfl) (hb hby at_281) (notFace_of_selects (args := #[]) (mvT hZ (hw _ (List.mem_of_getElem? (i := 73) rfl)))) (backOf (W := 0) (met_jeq l Z a0 hw [] z n0 o6 o7 o2 o3 (strL lA ca cb) (strL lB da db) _ O Sc A_o7 F_o6 F_o7 S_o2 S_o3) hZ (hw _ (List.mem_of_getElem? (i := 74) rfl)) (hw _ (List.mem_of_getElem? (i := 61) rfl)) (by decide) (by decide)) (by decide) (by decide) ?_
            intro T hT X
            show Go p e below _ (T.setTop (mkF m 284 #[.val (.long p0), .second, .val (.long p1), .second, .val (.long p2), .second, .val (.int p3), .val (.int lA), .val (.int ca), .val (.int cb), .val (.int lB), .val (.int (0 : Int32)), .val (.int da), .val (.int db), .val (.ref o2), .val (.ref o3), .val (.ref o4), .val (.ref o5), .val (.ref o6), .val (.ref o7), .val (.int kd), .val (.int (0 : Int32))] [(.int (f_jeq (strL lA ca cb) (strL lB da db)))]))
            refine Go.st (fun _ k => XS.iload X.here hx rfl (hb hby at_284) rfl k) ?_
            show Go p e below _ (T.setTop (mkF m 286 #[.val (.long p0), .second, .val (.long p1), .second, .val (.long p2), .second, .val (.int p3), .val (.int lA), .val (.int ca), .val (.int cb), .val (.int lB), .val (.int (0 : Int32)), .val (.int da), .val (.int db), .val (.ref o2), .val (.ref o3), .val (.ref o4), .val (.ref o5), .val (.ref o6), .val (.ref o7), .val (.int kd), .val (.int (0 : Int32))] [(.int (0 : Int32)), (.int (f_jeq (strL lA ca cb) (strL lB da db)))]))
            refine Go.st (fun _ k => XS.icmpNo X.here hx rfl (hb hby at_286) rfl (Jvm.Free.XT.ii_ne_f (own_jeq0 (own_3 hlA) (own_3 hlB) (own_m16 hca) (own_m16 hcb) (own_m16 hda) (own_m16 hdb) (fun q => q.2.1.elim hc10 hc13) : (f_jeq (strL lA ca cb) (strL lB da db)) = (0 : Int32))) k) ?_
            show Go p e below _ (T.setTop (mkF m 289 #[.val (.long p0), .second, .val (.long p1), .second, .val (.long p2), .second, .val (.int p3), .val (.int lA), .val (.int ca), .val (.int cb), .val (.int lB), .val (.int (0 : Int32)), .val (.int da), .val (.int db), .val (.ref o2), .val (.ref o3), .val (.ref o4), .val (.ref o5), .val (.ref o6), .val (.ref o7), .val (.int kd), .val (.int (0 : Int32))] []))
            refine Go.st (fun _ k => XS.aload X.here hx rfl (hb hby at_289) rfl rfl k) ?_
            show Go p e below _ (T.setTop (mkF m 291 #[.val (.long p0), .second, .val (.long p1), .second, .val (.long p2), .second, .val (.int p3), .val (.int lA), .val (.int ca), .val (.int cb), .val (.int lB), .val (.int (0 : Int32)), .val (.int da), .val (.int db), .val (.ref o2), .val (.ref o3), .val (.ref o4), .val (.ref o5), .val (.ref o6), .val (.ref o7), .val (.int kd), .val (.int (0 : Int32))] [(.ref o7)]))
            refine Go.st (fun _ k => XS.aload X.here hx rfl (hb hby at_291) rfl rfl k) ?_
            show Go p e below _ (T.setTop (mkF m 293 #[.val (.long p0), .second, .val (.long p1), .second, .val (.long p2), .second, .val (.int p3), .val (.int lA), .val (.int ca), .val (.int cb), .val (.int lB), .val (.int (0 : Int32)), .val (.int da), .val (.int db), .val (.ref o2), .val (.ref o3), .val (.ref o4), .val (.ref o5), .val (.ref o6), .val (.ref o7), .val (.int kd), .val (.int (0 : Int32))] [(.ref o6), (.ref o7)]))
            refine Go.virtV (K := "com/example/orgweave/orgweave/core/JsonValue") (z := (⟨"com/example/orgweave/orgweave/core/JsonValue", "equals", "(Ljava/lang/Object;)Z"⟩ : MethodName)) (argsL := [(.ref o6)]) (rest := []) (W := 0) (w := (.int (f_jeq (strL lB da db) (strL lA ca cb)))) X hx hZ hown (hml.trans rfl) hT A_o7 (hw _ (List.mem_of_getElem? (i := 70) rfl)) (hw _ (List.mem_of_getElem? (i := 71) rfl)) (hw _ (List.mem_of_getElem? (i := 73) rfl)) (hw _ (List.mem_of_getElem? (i := 72) rfl)) (by decide) pd_9 rfl rfl (Nat.le_of_ble_eq_true rfl) (hb hby at_293) (notFace_of_selects (args := #[]) (mvT hZ (hw _ (List.mem_of_getElem? (i := 73) rfl)))) (backOf (W := 0) (met_jeq l Z a0 hw [] z n0 o7 o6 o3 o2 (strL lB da db) (strL lA ca cb) _ O Sc A_o6 F_o7 F_o6 S_o3 S_o2) hZ (hw _ (List.mem_of_getElem? (i := 74) rfl)) (hw _ (List.mem_of_getElem? (i := 61) rfl)) (by decide) (by decide)) (by decide) (by decide) ?_
            intro T hT X
            show Go p e below _ (T.setTop (mkF m 296 #[.val (.long p0), .second, .val (.long p1), .second, .val (.long p2), .second, .val (.int p3), .val (.int lA), .val (.int ca), .val (.int cb), .val (.int lB), .val (.int (0 : Int32)), .val (.int da), .val (.int db), .val (.ref o2), .val (.ref o3), .val (.ref o4), .val (.ref o5), .val (.ref o6), .val (.ref o7), .val (.int kd), .val (.int (0 : Int32))] [(.int (f_jeq (strL lB da db) (strL lA ca cb)))]))
            refine Go.st (fun _ k => XS.iload X.here hx rfl (hb hby at_296) rfl k) ?_
            show Go p e below _ (T.setTop (mkF m 298 #[.val (.long p0), .second, .val (.long p1), .second, .val (.long p2), .second, .val (.int p3), .val (.int lA), .val (.int ca), .val (.int cb), .val (.int lB), .val (.int (0 : Int32)), .val (.int da), .val (.int db), .val (.ref o2), .val (.ref o3), .val (.ref o4), .val (.ref o5), .val (.ref o6), .val (.ref o7), .val (.int kd), .val (.int (0 : Int32))] [(.int (0 : Int32)), (.int (f_jeq (strL lB da db) (strL lA ca cb)))]))
            refine Go.st (fun _ k => XS.icmpNo X.here hx rfl (hb hby at_298) rfl (Jvm.Free.XT.ii_ne_f (own_jeq0S (own_3 hlA) (own_3 hlB) (own_m16 hca) (own_m16 hcb) (own_m16 hda) (own_m16 hdb) (fun q => q.2.1.elim hc10 hc13) : (f_jeq (strL lB da db) (strL lA ca cb)) = (0 : Int32))) k) ?_
            show Go p e below _ (T.setTop (mkF m 301 #[.val (.long p0), .second, .val (.long p1), .second, .val (.long p2), .second, .val (.int p3), .val (.int lA), .val (.int ca), .val (.int cb), .val (.int lB), .val (.int (0 : Int32)), .val (.int da), .val (.int db), .val (.ref o2), .val (.ref o3), .val (.ref o4), .val (.ref o5), .val (.ref o6), .val (.ref o7), .val (.int kd), .val (.int (0 : Int32))] []))
            refine Go.st (fun _ k => XS.iconst X.here hx rfl (hb hby at_301) k) ?_
            show Go p e below _ (T.setTop (mkF m 302 #[.val (.long p0), .second, .val (.long p1), .second, .val (.long p2), .second, .val (.int p3), .val (.int lA), .val (.int ca), .val (.int cb), .val (.int lB), .val (.int (0 : Int32)), .val (.int da), .val (.int db), .val (.ref o2), .val (.ref o3), .val (.ref o4), .val (.ref o5), .val (.ref o6), .val (.ref o7), .val (.int kd), .val (.int (0 : Int32))] [(.int (1 : Int32))]))
            refine Go.st (fun _ k => XS.goto X.here hx rfl (pc0 := 302) (pc' := 306) rfl (hb hby at_302) (by decide) (by decide) k) ?_
            show Go p e below _ (T.setTop (mkF m 306 #[.val (.long p0), .second, .val (.long p1), .second, .val (.long p2), .second, .val (.int p3), .val (.int lA), .val (.int ca), .val (.int cb), .val (.int lB), .val (.int (0 : Int32)), .val (.int da), .val (.int db), .val (.ref o2), .val (.ref o3), .val (.ref o4), .val (.ref o5), .val (.ref o6), .val (.ref o7), .val (.int kd), .val (.int (0 : Int32))] [(.int (1 : Int32))]))
            refine Go.retH hEL H hZ X hx hlk hT hret (by decide) (riI (by simp)) (hb hby at_306) (by decide) (by decide) ?_
            exact ⟨rfl, N⟩
      · refine Go.st (fun _ k => XS.icmpYes X.here hx rfl (pc0 := 241) (pc' := 274) rfl (hb hby at_241) rfl (Jvm.Free.XT.ii_ne_t hc9) (by decide) (by decide) k) ?_
        show Go p e below _ (T.setTop (mkF m 274 #[.val (.long p0), .second, .val (.long p1), .second, .val (.long p2), .second, .val (.int p3), .val (.int lA), .val (.int ca), .val (.int cb), .val (.int lB), .val (.int (0 : Int32)), .val (.int da), .val (.int db), .val (.ref o2), .val (.ref o3), .val (.ref o4), .val (.ref o5), .val (.ref o6), .val (.ref o7), .val (.int kd), .unset] []))
        refine Go.st (fun _ k => XS.iconst X.here hx rfl (hb hby at_274) k) ?_
        show Go p e below _ (T.setTop (mkF m 275 #[.val (.long p0), .second, .val (.long p1), .second, .val (.long p2), .second, .val (.int p3), .val (.int lA), .val (.int ca), .val (.int cb), .val (.int lB), .val (.int (0 : Int32)), .val (.int da), .val (.int db), .val (.ref o2), .val (.ref o3), .val (.ref o4), .val (.ref o5), .val (.ref o6), .val (.ref o7), .val (.int kd), .unset] [(.int (0 : Int32))]))
        refine Go.st (fun _ k => XS.istore X.here hx rfl (hb hby at_275) rfl (l' := #[.val (.long p0), .second, .val (.long p1), .second, .val (.long p2), .second, .val (.int p3), .val (.int lA), .val (.int ca), .val (.int cb), .val (.int lB), .val (.int (0 : Int32)), .val (.int da), .val (.int db), .val (.ref o2), .val (.ref o3), .val (.ref o4), .val (.ref o5), .val (.ref o6), .val (.ref o7), .val (.int kd), .val (.int (0 : Int32))]) rfl k) ?_
        show Go p e below _ (T.setTop (mkF m 277 #[.val (.long p0), .second, .val (.long p1), .second, .val (.long p2), .second, .val (.int p3), .val (.int lA), .val (.int ca), .val (.int cb), .val (.int lB), .val (.int (0 : Int32)), .val (.int da), .val (.int db), .val (.ref o2), .val (.ref o3), .val (.ref o4), .val (.ref o5), .val (.ref o6), .val (.ref o7), .val (.int kd), .val (.int (0 : Int32))] []))
        refine Go.st (fun _ k => XS.aload X.here hx rfl (hb hby at_277) rfl rfl k) ?_
        show Go p e below _ (T.setTop (mkF m 279 #[.val (.long p0), .second, .val (.long p1), .second, .val (.long p2), .second, .val (.int p3), .val (.int lA), .val (.int ca), .val (.int cb), .val (.int lB), .val (.int (0 : Int32)), .val (.int da), .val (.int db), .val (.ref o2), .val (.ref o3), .val (.ref o4), .val (.ref o5), .val (.ref o6), .val (.ref o7), .val (.int kd), .val (.int (0 : Int32))] [(.ref o6)]))
        refine Go.st (fun _ k => XS.aload X.here hx rfl (hb hby at_279) rfl rfl k) ?_
        show Go p e below _ (T.setTop (mkF m 281 #[.val (.long p0), .second, .val (.long p1), .second, .val (.long p2), .second, .val (.int p3), .val (.int lA), .val (.int ca), .val (.int cb), .val (.int lB), .val (.int (0 : Int32)), .val (.int da), .val (.int db), .val (.ref o2), .val (.ref o3), .val (.ref o4), .val (.ref o5), .val (.ref o6), .val (.ref o7), .val (.int kd), .val (.int (0 : Int32))] [(.ref o7), (.ref o6)]))
        refine Go.virtV (K := "com/example/orgweave/orgweave/core/JsonValue") (z := (⟨"com/example/orgweave/orgweave/core/JsonValue", "equals", "(Ljava/lang/Object;)Z"⟩ : MethodName)) (argsL := [(.ref o7)]) (rest := []) (W := 0) (w := (.int (f_jeq (strL lA ca cb) (strL lB da db)))) X hx hZ hown (hml.trans rfl) hT A_o6 (hw _ (List.mem_of_getElem? (i := 70) rfl)) (hw _ (List.mem_of_getElem? (i := 71) rfl)) (hw _ (List.mem_of_getElem? (i := 73) rfl)) (hw _ (List.mem_of_getElem? (i := 72) rfl)) (by decide) pd_9 rfl rfl (Nat.le_of_ble_eq_true rfl) (hb hby at_281) (notFace_of_selects (args := #[]) (mvT hZ (hw _ (List.mem_of_getElem? (i := 73) rfl)))) (backOf (W := 0) (met_jeq l Z a0 hw [] z n0 o6 o7 o2 o3 (strL lA ca cb) (strL lB da db) _ O Sc A_o7 F_o6 F_o7 S_o2 S_o3) hZ (hw _ (List.mem_of_getElem? (i := 74) rfl)) (hw _ (List.mem_of_getElem? (i := 61) rfl)) (by decide) (by decide)) (by decide) (by decide) ?_
        intro T hT X
        show Go p e below _ (T.setTop (mkF m 284 #[.val (.long p0), .second, .val (.long p1), .second, .val (.long p2), .second, .val (.int p3), .val (.int lA), .val (.int ca), .val (.int cb), .val (.int lB), .val (.int (0 : Int32)), .val (.int da), .val (.int db), .val (.ref o2), .val (.ref o3), .val (.ref o4), .val (.ref o5), .val (.ref o6), .val (.ref o7), .val (.int kd), .val (.int (0 : Int32))] [(.int (f_jeq (strL lA ca cb) (strL lB da db)))]))
        refine Go.st (fun _ k => XS.iload X.here hx rfl (hb hby at_284) rfl k) ?_
        show Go p e below _ (T.setTop (mkF m 286 #[.val (.long p0), .second, .val (.long p1), .second, .val (.long p2), .second, .val (.int p3), .val (.int lA), .val (.int ca), .val (.int cb), .val (.int lB), .val (.int (0 : Int32)), .val (.int da), .val (.int db), .val (.ref o2), .val (.ref o3), .val (.ref o4), .val (.ref o5), .val (.ref o6), .val (.ref o7), .val (.int kd), .val (.int (0 : Int32))] [(.int (0 : Int32)), (.int (f_jeq (strL lA ca cb) (strL lB da db)))]))
        refine Go.st (fun _ k => XS.icmpNo X.here hx rfl (hb hby at_286) rfl (Jvm.Free.XT.ii_ne_f (own_jeq0 (own_3 hlA) (own_3 hlB) (own_m16 hca) (own_m16 hcb) (own_m16 hda) (own_m16 hdb) (fun q => hc9 q.1) : (f_jeq (strL lA ca cb) (strL lB da db)) = (0 : Int32))) k) ?_
        show Go p e below _ (T.setTop (mkF m 289 #[.val (.long p0), .second, .val (.long p1), .second, .val (.long p2), .second, .val (.int p3), .val (.int lA), .val (.int ca), .val (.int cb), .val (.int lB), .val (.int (0 : Int32)), .val (.int da), .val (.int db), .val (.ref o2), .val (.ref o3), .val (.ref o4), .val (.ref o5), .val (.ref o6), .val (.ref o7), .val (.int kd), .val (.int (0 : Int32))] []))
        refine Go.st (fun _ k => XS.aload X.here hx rfl (hb hby at_289) rfl rfl k) ?_
        show Go p e below _ (T.setTop (mkF m 291 #[.val (.long p0), .second, .val (.long p1), .second, .val (.long p2), .second, .val (.int p3), .val (.int lA), .val (.int ca), .val (.int cb), .val (.int lB), .val (.int (0 : Int32)), .val (.int da), .val (.int db), .val (.ref o2), .val (.ref o3), .val (.ref o4), .val (.ref o5), .val (.ref o6), .val (.ref o7), .val (.int kd), .val (.int (0 : Int32))] [(.ref o7)]))
        refine Go.st (fun _ k => XS.aload X.here hx rfl (hb hby at_291) rfl rfl k) ?_
        show Go p e below _ (T.setTop (mkF m 293 #[.val (.long p0), .second, .val (.long p1), .second, .val (.long p2), .second, .val (.int p3), .val (.int lA), .val (.int ca), .val (.int cb), .val (.int lB), .val (.int (0 : Int32)), .val (.int da), .val (.int db), .val (.ref o2), .val (.ref o3), .val (.ref o4), .val (.ref o5), .val (.ref o6), .val (.ref o7), .val (.int kd), .val (.int (0 : Int32))] [(.ref o6), (.ref o7)]))
        refine Go.virtV (K := "com/example/orgweave/orgweave/core/JsonValue") (z := (⟨"com/example/orgweave/orgweave/core/JsonValue", "equals", "(Ljava/lang/Object;)Z"⟩ : MethodName)) (argsL := [(.ref o6)]) (rest := []) (W := 0) (w := (.int (f_jeq (strL lB da db) (strL lA ca cb)))) X hx hZ hown (hml.trans rfl) hT A_o7 (hw _ (List.mem_of_getElem? (i := 70) rfl)) (hw _ (List.mem_of_getElem? (i := 71) rfl)) (hw _ (List.mem_of_getElem? (i := 73) rfl)) (hw _ (List.mem_of_getElem? (i := 72) rfl)) (by decide) pd_9 rfl rfl (Nat.le_of_ble_eq_true rfl) (hb hby at_293) (notFace_of_selects (args := #[]) (mvT hZ (hw _ (List.mem_of_getElem? (i := 73) rfl)))) (backOf (W := 0) (met_jeq l Z a0 hw [] z n0 o7 o6 o3 o2 (strL lB da db) (strL lA ca cb) _ O Sc A_o6 F_o7 F_o6 S_o3 S_o2) hZ (hw _ (List.mem_of_getElem? (i := 74) rfl)) (hw _ (List.mem_of_getElem? (i := 61) rfl)) (by decide) (by decide)) (by decide) (by decide) ?_
        intro T hT X
        show Go p e below _ (T.setTop (mkF m 296 #[.val (.long p0), .second, .val (.long p1), .second, .val (.long p2), .second, .val (.int p3), .val (.int lA), .val (.int ca), .val (.int cb), .val (.int lB), .val (.int (0 : Int32)), .val (.int da), .val (.int db), .val (.ref o2), .val (.ref o3), .val (.ref o4), .val (.ref o5), .val (.ref o6), .val (.ref o7), .val (.int kd), .val (.int (0 : Int32))] [(.int (f_jeq (strL lB da db) (strL lA ca cb)))]))
        refine Go.st (fun _ k => XS.iload X.here hx rfl (hb hby at_296) rfl k) ?_
        show Go p e below _ (T.setTop (mkF m 298 #[.val (.long p0), .second, .val (.long p1), .second, .val (.long p2), .second, .val (.int p3), .val (.int lA), .val (.int ca), .val (.int cb), .val (.int lB), .val (.int (0 : Int32)), .val (.int da), .val (.int db), .val (.ref o2), .val (.ref o3), .val (.ref o4), .val (.ref o5), .val (.ref o6), .val (.ref o7), .val (.int kd), .val (.int (0 : Int32))] [(.int (0 : Int32)), (.int (f_jeq (strL lB da db) (strL lA ca cb)))]))
        refine Go.st (fun _ k => XS.icmpNo X.here hx rfl (hb hby at_298) rfl (Jvm.Free.XT.ii_ne_f (own_jeq0S (own_3 hlA) (own_3 hlB) (own_m16 hca) (own_m16 hcb) (own_m16 hda) (own_m16 hdb) (fun q => hc9 q.1) : (f_jeq (strL lB da db) (strL lA ca cb)) = (0 : Int32))) k) ?_
        show Go p e below _ (T.setTop (mkF m 301 #[.val (.long p0), .second, .val (.long p1), .second, .val (.long p2), .second, .val (.int p3), .val (.int lA), .val (.int ca), .val (.int cb), .val (.int lB), .val (.int (0 : Int32)), .val (.int da), .val (.int db), .val (.ref o2), .val (.ref o3), .val (.ref o4), .val (.ref o5), .val (.ref o6), .val (.ref o7), .val (.int kd), .val (.int (0 : Int32))] []))
        refine Go.st (fun _ k => XS.iconst X.here hx rfl (hb hby at_301) k) ?_
        show Go p e below _ (T.setTop (mkF m 302 #[.val (.long p0), .second, .val (.long p1), .second, .val (.long p2), .second, .val (.int p3), .val (.int lA), .val (.int ca), .val (.int cb), .val (.int lB), .val (.int (0 : Int32)), .val (.int da), .val (.int db), .val (.ref o2), .val (.ref o3), .val (.ref o4), .val (.ref o5), .val (.ref o6), .val (.ref o7), .val (.int kd), .val (.int (0 : Int32))] [(.int (1 : Int32))]))
        refine Go.st (fun _ k => XS.goto X.here hx rfl (pc0 := 302) (pc' := 306) rfl (hb hby at_302) (by decide) (by decide) k) ?_
        show Go p e below _ (T.setTop (mkF m 306 #[.val (.long p0), .second, .val (.long p1), .second, .val (.long p2), .second, .val (.int p3), .val (.int lA), .val (.int ca), .val (.int cb), .val (.int lB), .val (.int (0 : Int32)), .val (.int da), .val (.int db), .val (.ref o2), .val (.ref o3), .val (.ref o4), .val (.ref o5), .val (.ref o6), .val (.ref o7), .val (.int kd), .val (.int (0 : Int32))] [(.int (1 : Int32))]))
        refine Go.retH hEL H hZ X hx hlk hT hret (by decide) (riI (by simp)) (hb hby at_306) (by decide) (by decide) ?_
        exact ⟨rfl, N⟩
    · refine Go.st (fun _ k => XS.ifYes X.here hx rfl (pc0 := 234) (pc' := 307) rfl (hb hby at_234) rfl (Jvm.Free.XT.i0_ne_t hc8) (by decide) (by decide) k) ?_
      show Go p e below _ (T.setTop (mkF m 307 #[.val (.long p0), .second, .val (.long p1), .second, .val (.long p2), .second, .val (.int p3), .val (.int lA), .val (.int ca), .val (.int cb), .val (.int lB), .val (.int (0 : Int32)), .val (.int da), .val (.int db), .val (.ref o2), .val (.ref o3), .val (.ref o4), .val (.ref o5), .val (.ref o6), .val (.ref o7), .val (.int kd), .unset] []))
      refine Go.st (fun _ k => XS.iload X.here hx rfl (hb hby at_307) rfl k) ?_
      show Go p e below _ (T.setTop (mkF m 309 #[.val (.long p0), .second, .val (.long p1), .second, .val (.long p2), .second, .val (.int p3), .val (.int lA), .val (.int ca), .val (.int cb), .val (.int lB), .val (.int (0 : Int32)), .val (.int da), .val (.int db), .val (.ref o2), .val (.ref o3), .val (.ref o4), .val (.ref o5), .val (.ref o6), .val (.ref o7), .val (.int kd), .unset] [(.int kd)]))
      refine Go.st (fun _ k => XS.iconst X.here hx rfl (hb hby at_309) k) ?_
      show Go p e below _ (T.setTop (mkF m 310 #[.val (.long p0), .second, .val (.long p1), .second, .val (.long p2), .second, .val (.int p3), .val (.int lA), .val (.int ca), .val (.int cb), .val (.int lB), .val (.int (0 : Int32)), .val (.int da), .val (.int db), .val (.ref o2), .val (.ref o3), .val (.ref o4), .val (.ref o5), .val (.ref o6), .val (.ref o7), .val (.int kd), .unset] [(.int (1 : Int32)), (.int kd)]))
      by_cases hc16 : kd = (1 : Int32)
      · refine Go.st (fun _ k => XS.icmpNo X.here hx rfl (hb hby at_310) rfl (Jvm.Free.XT.ii_ne_f hc16) k) ?_
        show Go p e below _ (T.setTop (mkF m 313 #[.val (.long p0), .second, .val (.long p1), .second, .val (.long p2), .second, .val (.int p3), .val (.int lA), .val (.int ca), .val (.int cb), .val (.int lB), .val (.int (0 : Int32)), .val (.int da), .val (.int db), .val (.ref o2), .val (.ref o3), .val (.ref o4), .val (.ref o5), .val (.ref o6), .val (.ref o7), .val (.int kd), .unset] []))
        refine Go.st (fun _ k => XS.aload X.here hx rfl (hb hby at_313) rfl rfl k) ?_
        show Go p e below _ (T.setTop (mkF m 315 #[.val (.long p0), .second, .val (.long p1), .second, .val (.long p2), .second, .val (.int p3), .val (.int lA), .val (.int ca), .val (.int cb), .val (.int lB), .val (.int (0 : Int32)), .val (.int da), .val (.int db), .val (.ref o2), .val (.ref o3), .val (.ref o4), .val (.ref o5), .val (.ref o6), .val (.ref o7), .val (.int kd), .unset] [(.ref o6)]))
        refine Go.st (fun _ k => XS.aconstNull X.here hx rfl (hb hby at_315) k) ?_
        show Go p e below _ (T.setTop (mkF m 316 #[.val (.long p0), .second, .val (.long p1), .second, .val (.long p2), .second, .val (.int p3), .val (.int lA), .val (.int ca), .val (.int cb), .val (.int lB), .val (.int (0 : Int32)), .val (.int da), .val (.int db), .val (.ref o2), .val (.ref o3), .val (.ref o4), .val (.ref o5), .val (.ref o6), .val (.ref o7), .val (.int kd), .unset] [.null, (.ref o6)]))
        refine Go.virtV (K := "com/example/orgweave/orgweave/core/JsonValue") (z := (⟨"com/example/orgweave/orgweave/core/JsonValue", "equals", "(Ljava/lang/Object;)Z"⟩ : MethodName)) (argsL := [.null]) (rest := []) (W := 0) (w := (.int (0 : Int32))) X hx hZ hown (hml.trans rfl) hT A_o6 (hw _ (List.mem_of_getElem? (i := 70) rfl)) (hw _ (List.mem_of_getElem? (i := 71) rfl)) (hw _ (List.mem_of_getElem? (i := 73) rfl)) (hw _ (List.mem_of_getElem? (i := 72) rfl)) (by decide) pd_9 rfl rfl (Nat.le_of_ble_eq_true rfl) (hb hby at_316) (notFace_of_selects (args := #[]) (mvT hZ (hw _ (List.mem_of_getElem? (i := 73) rfl)))) (backOf (W := 0) (met_jeqN l Z a0 hw [] o6 _) hZ (hw _ (List.mem_of_getElem? (i := 74) rfl)) (hw _ (List.mem_of_getElem? (i := 61) rfl)) (by decide) (by decide)) (by decide) (by decide) ?_
        intro T hT X
        show Go p e below _ (T.setTop (mkF m 319 #[.val (.long p0), .second, .val (.long p1), .second, .val (.long p2), .second, .val (.int p3), .val (.int lA), .val (.int ca), .val (.int cb), .val (.int lB), .val (.int (0 : Int32)), .val (.int da), .val (.int db), .val (.ref o2), .val (.ref o3), .val (.ref o4), .val (.ref o5), .val (.ref o6), .val (.ref o7), .val (.int kd), .unset] [(.int (0 : Int32))]))
        refine Go.st (fun _ k => XS.ifNo X.here hx rfl (hb hby at_319) rfl (Jvm.Free.XT.i0_ne_f (by decide : (0 : Int32) = (0 : Int32))) k) ?_
        show Go p e below _ (T.setTop (mkF m 322 #[.val (.long p0), .second, .val (.long p1), .second, .val (.long p2), .second, .val (.int p3), .val (.int lA), .val (.int ca), .val (.int cb), .val (.int lB), .val (.int (0 : Int32)), .val (.int da), .val (.int db), .val (.ref o2), .val (.ref o3), .val (.ref o4), .val (.ref o5), .val (.ref o6), .val (.ref o7), .val (.int kd), .unset] []))
        refine Go.st (fun _ k => XS.iconst X.here hx rfl (hb hby at_322) k) ?_
        show Go p e below _ (T.setTop (mkF m 323 #[.val (.long p0), .second, .val (.long p1), .second, .val (.long p2), .second, .val (.int p3), .val (.int lA), .val (.int ca), .val (.int cb), .val (.int lB), .val (.int (0 : Int32)), .val (.int da), .val (.int db), .val (.ref o2), .val (.ref o3), .val (.ref o4), .val (.ref o5), .val (.ref o6), .val (.ref o7), .val (.int kd), .unset] [(.int (1 : Int32))]))
        refine Go.st (fun _ k => XS.goto X.here hx rfl (pc0 := 323) (pc' := 327) rfl (hb hby at_323) (by decide) (by decide) k) ?_
        show Go p e below _ (T.setTop (mkF m 327 #[.val (.long p0), .second, .val (.long p1), .second, .val (.long p2), .second, .val (.int p3), .val (.int lA), .val (.int ca), .val (.int cb), .val (.int lB), .val (.int (0 : Int32)), .val (.int da), .val (.int db), .val (.ref o2), .val (.ref o3), .val (.ref o4), .val (.ref o5), .val (.ref o6), .val (.ref o7), .val (.int kd), .unset] [(.int (1 : Int32))]))
        refine Go.retH hEL H hZ X hx hlk hT hret (by decide) (riI (by simp)) (hb hby at_327) (by decide) (by decide) ?_
        exact ⟨rfl, N⟩
      · refine Go.st (fun _ k => XS.icmpYes X.here hx rfl (pc0 := 310) (pc' := 328) rfl (hb hby at_310) rfl (Jvm.Free.XT.ii_ne_t hc16) (by decide) (by decide) k) ?_
        show Go p e below _ (T.setTop (mkF m 328 #[.val (.long p0), .second, .val (.long p1), .second, .val (.long p2), .second, .val (.int p3), .val (.int lA), .val (.int ca), .val (.int cb), .val (.int lB), .val (.int (0 : Int32)), .val (.int da), .val (.int db), .val (.ref o2), .val (.ref o3), .val (.ref o4), .val (.ref o5), .val (.ref o6), .val (.ref o7), .val (.int kd), .unset] []))
        refine Go.st (fun _ k => XS.iload X.here hx rfl (hb hby at_328) rfl k) ?_
        show Go p e below _ (T.setTop (mkF m 330 #[.val (.long p0), .second, .val (.long p1), .second, .val (.long p2), .second, .val (.int p3), .val (.int lA), .val (.int ca), .val (.int cb), .val (.int lB), .val (.int (0 : Int32)), .val (.int da), .val (.int db), .val (.ref o2), .val (.ref o3), .val (.ref o4), .val (.ref o5), .val (.ref o6), .val (.ref o7), .val (.int kd), .unset] [(.int kd)]))
        refine Go.st (fun _ k => XS.iconst X.here hx rfl (hb hby at_330) k) ?_
        show Go p e below _ (T.setTop (mkF m 331 #[.val (.long p0), .second, .val (.long p1), .second, .val (.long p2), .second, .val (.int p3), .val (.int lA), .val (.int ca), .val (.int cb), .val (.int lB), .val (.int (0 : Int32)), .val (.int da), .val (.int db), .val (.ref o2), .val (.ref o3), .val (.ref o4), .val (.ref o5), .val (.ref o6), .val (.ref o7), .val (.int kd), .unset] [(.int (2 : Int32)), (.int kd)]))
        by_cases hc17 : kd = (2 : Int32)
        · refine Go.st (fun _ k => XS.icmpNo X.here hx rfl (hb hby at_331) rfl (Jvm.Free.XT.ii_ne_f hc17) k) ?_
          show Go p e below _ (T.setTop (mkF m 334 #[.val (.long p0), .second, .val (.long p1), .second, .val (.long p2), .second, .val (.int p3), .val (.int lA), .val (.int ca), .val (.int cb), .val (.int lB), .val (.int (0 : Int32)), .val (.int da), .val (.int db), .val (.ref o2), .val (.ref o3), .val (.ref o4), .val (.ref o5), .val (.ref o6), .val (.ref o7), .val (.int kd), .unset] []))
          refine Go.st (fun _ k => XS.aload X.here hx rfl (hb hby at_334) rfl rfl k) ?_
          show Go p e below _ (T.setTop (mkF m 336 #[.val (.long p0), .second, .val (.long p1), .second, .val (.long p2), .second, .val (.int p3), .val (.int lA), .val (.int ca), .val (.int cb), .val (.int lB), .val (.int (0 : Int32)), .val (.int da), .val (.int db), .val (.ref o2), .val (.ref o3), .val (.ref o4), .val (.ref o5), .val (.ref o6), .val (.ref o7), .val (.int kd), .unset] [(.ref o2)]))
          refine Go.st (fun _ k => XS.astore X.here hx rfl (hb hby at_336) rfl rfl (l' := #[.val (.long p0), .second, .val (.long p1), .second, .val (.long p2), .second, .val (.int p3), .val (.int lA), .val (.int ca), .val (.int cb), .val (.int lB), .val (.int (0 : Int32)), .val (.int da), .val (.int db), .val (.ref o2), .val (.ref o3), .val (.ref o4), .val (.ref o5), .val (.ref o6), .val (.ref o7), .val (.int kd), .val (.ref o2)]) rfl k) ?_
          show Go p e below _ (T.setTop (mkF m 338 #[.val (.long p0), .second, .val (.long p1), .second, .val (.long p2), .second, .val (.int p3), .val (.int lA), .val (.int ca), .val (.int cb), .val (.int lB), .val (.int (0 : Int32)), .val (.int da), .val (.int db), .val (.ref o2), .val (.ref o3), .val (.ref o4), .val (.ref o5), .val (.ref o6), .val (.ref o7), .val (.int kd), .val (.ref o2)] []))
          refine Go.st (fun _ k => XS.aload X.here hx rfl (hb hby at_338) rfl rfl k) ?_
          show Go p e below _ (T.setTop (mkF m 340 #[.val (.long p0), .second, .val (.long p1), .second, .val (.long p2), .second, .val (.int p3), .val (.int lA), .val (.int ca), .val (.int cb), .val (.int lB), .val (.int (0 : Int32)), .val (.int da), .val (.int db), .val (.ref o2), .val (.ref o3), .val (.ref o4), .val (.ref o5), .val (.ref o6), .val (.ref o7), .val (.int kd), .val (.ref o2)] [(.ref o6)]))
          refine Go.st (fun _ k => XS.aload X.here hx rfl (hb hby at_340) rfl rfl k) ?_
          show Go p e below _ (T.setTop (mkF m 342 #[.val (.long p0), .second, .val (.long p1), .second, .val (.long p2), .second, .val (.int p3), .val (.int lA), .val (.int ca), .val (.int cb), .val (.int lB), .val (.int (0 : Int32)), .val (.int da), .val (.int db), .val (.ref o2), .val (.ref o3), .val (.ref o4), .val (.ref o5), .val (.ref o6), .val (.ref o7), .val (.int kd), .val (.ref o2)] [(.ref o2), (.ref o6)]))
          refine Go.virtV (K := "com/example/orgweave/orgweave/core/JsonValue") (z := (⟨"com/example/orgweave/orgweave/core/JsonValue", "equals", "(Ljava/lang/Object;)Z"⟩ : MethodName)) (argsL := [(.ref o2)]) (rest := []) (W := 0) (w := (.int (0 : Int32))) X hx hZ hown (hml.trans rfl) hT A_o6 (hw _ (List.mem_of_getElem? (i := 70) rfl)) (hw _ (List.mem_of_getElem? (i := 71) rfl)) (hw _ (List.mem_of_getElem? (i := 73) rfl)) (hw _ (List.mem_of_getElem? (i := 72) rfl)) (by decide) pd_9 rfl rfl (Nat.le_of_ble_eq_true rfl) (hb hby at_342) (notFace_of_selects (args := #[]) (mvT hZ (hw _ (List.mem_of_getElem? (i := 73) rfl)))) (backOf (W := 0) (met_jeqS l Z a0 hw [] o6 o2 _ S_o2.exa) hZ (hw _ (List.mem_of_getElem? (i := 74) rfl)) (hw _ (List.mem_of_getElem? (i := 61) rfl)) (by decide) (by decide)) (by decide) (by decide) ?_
          intro T hT X
          show Go p e below _ (T.setTop (mkF m 345 #[.val (.long p0), .second, .val (.long p1), .second, .val (.long p2), .second, .val (.int p3), .val (.int lA), .val (.int ca), .val (.int cb), .val (.int lB), .val (.int (0 : Int32)), .val (.int da), .val (.int db), .val (.ref o2), .val (.ref o3), .val (.ref o4), .val (.ref o5), .val (.ref o6), .val (.ref o7), .val (.int kd), .val (.ref o2)] [(.int (0 : Int32))]))
          refine Go.st (fun _ k => XS.ifNo X.here hx rfl (hb hby at_345) rfl (Jvm.Free.XT.i0_ne_f (by decide : (0 : Int32) = (0 : Int32))) k) ?_
          show Go p e below _ (T.setTop (mkF m 348 #[.val (.long p0), .second, .val (.long p1), .second, .val (.long p2), .second, .val (.int p3), .val (.int lA), .val (.int ca), .val (.int cb), .val (.int lB), .val (.int (0 : Int32)), .val (.int da), .val (.int db), .val (.ref o2), .val (.ref o3), .val (.ref o4), .val (.ref o5), .val (.ref o6), .val (.ref o7), .val (.int kd), .val (.ref o2)] []))
          refine Go.st (fun _ k => XS.iconst X.here hx rfl (hb hby at_348) k) ?_
          show Go p e below _ (T.setTop (mkF m 349 #[.val (.long p0), .second, .val (.long p1), .second, .val (.long p2), .second, .val (.int p3), .val (.int lA), .val (.int ca), .val (.int cb), .val (.int lB), .val (.int (0 : Int32)), .val (.int da), .val (.int db), .val (.ref o2), .val (.ref o3), .val (.ref o4), .val (.ref o5), .val (.ref o6), .val (.ref o7), .val (.int kd), .val (.ref o2)] [(.int (1 : Int32))]))
          refine Go.st (fun _ k => XS.goto X.here hx rfl (pc0 := 349) (pc' := 353) rfl (hb hby at_349) (by decide) (by decide) k) ?_
          show Go p e below _ (T.setTop (mkF m 353 #[.val (.long p0), .second, .val (.long p1), .second, .val (.long p2), .second, .val (.int p3), .val (.int lA), .val (.int ca), .val (.int cb), .val (.int lB), .val (.int (0 : Int32)), .val (.int da), .val (.int db), .val (.ref o2), .val (.ref o3), .val (.ref o4), .val (.ref o5), .val (.ref o6), .val (.ref o7), .val (.int kd), .val (.ref o2)] [(.int (1 : Int32))]))
          refine Go.retH hEL H hZ X hx hlk hT hret (by decide) (riI (by simp)) (hb hby at_353) (by decide) (by decide) ?_
          exact ⟨rfl, N⟩
        · refine Go.st (fun _ k => XS.icmpYes X.here hx rfl (pc0 := 331) (pc' := 354) rfl (hb hby at_331) rfl (Jvm.Free.XT.ii_ne_t hc17) (by decide) (by decide) k) ?_
          show Go p e below _ (T.setTop (mkF m 354 #[.val (.long p0), .second, .val (.long p1), .second, .val (.long p2), .second, .val (.int p3), .val (.int lA), .val (.int ca), .val (.int cb), .val (.int lB), .val (.int (0 : Int32)), .val (.int da), .val (.int db), .val (.ref o2), .val (.ref o3), .val (.ref o4), .val (.ref o5), .val (.ref o6), .val (.ref o7), .val (.int kd), .unset] []))
          refine Go.st (fun _ k => XS.aload X.here hx rfl (hb hby at_354) rfl rfl k) ?_
          show Go p e below _ (T.setTop (mkF m 356 #[.val (.long p0), .second, .val (.long p1), .second, .val (.long p2), .second, .val (.int p3), .val (.int lA), .val (.int ca), .val (.int cb), .val (.int lB), .val (.int (0 : Int32)), .val (.int da), .val (.int db), .val (.ref o2), .val (.ref o3), .val (.ref o4), .val (.ref o5), .val (.ref o6), .val (.ref o7), .val (.int kd), .unset] [(.ref o6)]))
          refine Go.st (fun _ k => XS.aload X.here hx rfl (hb hby at_356) rfl rfl k) ?_
          show Go p e below _ (T.setTop (mkF m 358 #[.val (.long p0), .second, .val (.long p1), .second, .val (.long p2), .second, .val (.int p3), .val (.int lA), .val (.int ca), .val (.int cb), .val (.int lB), .val (.int (0 : Int32)), .val (.int da), .val (.int db), .val (.ref o2), .val (.ref o3), .val (.ref o4), .val (.ref o5), .val (.ref o6), .val (.ref o7), .val (.int kd), .unset] [(.ref o6), (.ref o6)]))
          refine Go.virtV (K := "com/example/orgweave/orgweave/core/JsonValue") (z := (⟨"com/example/orgweave/orgweave/core/JsonValue", "equals", "(Ljava/lang/Object;)Z"⟩ : MethodName)) (argsL := [(.ref o6)]) (rest := []) (W := 0) (w := (.int (f_jeq (strL lA ca cb) (strL lA ca cb)))) X hx hZ hown (hml.trans rfl) hT A_o6 (hw _ (List.mem_of_getElem? (i := 70) rfl)) (hw _ (List.mem_of_getElem? (i := 71) rfl)) (hw _ (List.mem_of_getElem? (i := 73) rfl)) (hw _ (List.mem_of_getElem? (i := 72) rfl)) (by decide) pd_9 rfl rfl (Nat.le_of_ble_eq_true rfl) (hb hby at_358) (notFace_of_selects (args := #[]) (mvT hZ (hw _ (List.mem_of_getElem? (i := 73) rfl)))) (backOf (W := 0) (met_jeq l Z a0 hw [] z n0 o6 o6 o2 o2 (strL lA ca cb) (strL lA ca cb) _ O Sc A_o6 F_o6 F_o6 S_o2 S_o2) hZ (hw _ (List.mem_of_getElem? (i := 74) rfl)) (hw _ (List.mem_of_getElem? (i := 61) rfl)) (by decide) (by decide)) (by decide) (by decide) ?_
          intro T hT X
          show Go p e below _ (T.setTop (mkF m 361 #[.val (.long p0), .second, .val (.long p1), .second, .val (.long p2), .second, .val (.int p3), .val (.int lA), .val (.int ca), .val (.int cb), .val (.int lB), .val (.int (0 : Int32)), .val (.int da), .val (.int db), .val (.ref o2), .val (.ref o3), .val (.ref o4), .val (.ref o5), .val (.ref o6), .val (.ref o7), .val (.int kd), .unset] [(.int (f_jeq (strL lA ca cb) (strL lA ca cb)))]))
          refine Go.retH hEL H hZ X hx hlk hT hret (by rw [own_self]; decide) (riI (by simp)) (hb hby at_361) (by decide) (by decide) ?_
          exact ⟨by rw [own_self], N⟩
  · refine Go.st (fun _ k => XS.ifNo X.here hx rfl (hb hby at_45) rfl (Jvm.Free.XT.i0_eq_f hc1) k) ?_
    show Go p e below _ (T.setTop (mkF m 48 #[.val (.long p0), .second, .val (.long p1), .second, .val (.long p2), .second, .val (.int p3), .val (.int lA), .val (.int ca), .val (.int cb), .val (.int lB), .unset, .unset, .unset, .unset, .unset, .unset, .unset, .unset, .unset, .unset, .unset] []))
    refine Go.st (fun _ k => XS.iconst X.here hx rfl (hb hby at_48) k) ?_
    show Go p e below _ (T.setTop (mkF m 49 #[.val (.long p0), .second, .val (.long p1), .second, .val (.long p2), .second, .val (.int p3), .val (.int lA), .val (.int ca), .val (.int cb), .val (.int lB), .unset, .unset, .unset, .unset, .unset, .unset, .unset, .unset, .unset, .unset, .unset] [(.int (1 : Int32))]))
    refine Go.st (fun _ k => XS.goto X.here hx rfl (pc0 := 49) (pc' := 53) rfl (hb hby at_49) (by decide) (by decide) k) ?_
    show Go p e below _ (T.setTop (mkF m 53 #[.val (.long p0), .second, .val (.long p1), .second, .val (.long p2), .second, .val (.int p3), .val (.int lA), .val (.int ca), .val (.int cb), .val (.int lB), .unset, .unset, .unset, .unset, .unset, .unset, .unset, .unset, .unset, .unset, .unset] [(.int (1 : Int32))]))
    refine Go.st (fun _ k => XS.istore X.here hx rfl (hb hby at_53) rfl (l' := #[.val (.long p0), .second, .val (.long p1), .second, .val (.long p2), .second, .val (.int p3), .val (.int lA), .val (.int ca), .val (.int cb), .val (.int lB), .val (.int (1 : Int32)), .unset, .unset, .unset, .unset, .unset, .unset, .unset, .unset, .unset, .unset]) rfl k) ?_
    show Go p e below _ (T.setTop (mkF m 55 #[.val (.long p0), .second, .val (.long p1), .second, .val (.long p2), .second, .val (.int p3), .val (.int lA), .val (.int ca), .val (.int cb), .val (.int lB), .val (.int (1 : Int32)), .unset, .unset, .unset, .unset, .unset, .unset, .unset, .unset, .unset, .unset] []))
    refine Go.st (fun _ k => XS.iload X.here hx rfl (hb hby at_55) rfl k) ?_
    show Go p e below _ (T.setTop (mkF m 57 #[.val (.long p0), .second, .val (.long p1), .second, .val (.long p2), .second, .val (.int p3), .val (.int lA), .val (.int ca), .val (.int cb), .val (.int lB), .val (.int (1 : Int32)), .unset, .unset, .unset, .unset, .unset, .unset, .unset, .unset, .unset, .unset] [(.int (1 : Int32))]))
    refine Go.st (fun _ k => XS.ifNo X.here hx rfl (hb hby at_57) rfl (Jvm.Free.XT.i0_eq_f (by decide : ¬ ((1 : Int32) = (0 : Int32)))) k) ?_
    show Go p e below _ (T.setTop (mkF m 60 #[.val (.long p0), .second, .val (.long p1), .second, .val (.long p2), .second, .val (.int p3), .val (.int lA), .val (.int ca), .val (.int cb), .val (.int lB), .val (.int (1 : Int32)), .unset, .unset, .unset, .unset, .unset, .unset, .unset, .unset, .unset, .unset] []))
    refine Go.st (fun _ k => XS.iload X.here hx rfl (hb hby at_60) rfl k) ?_
    show Go p e below _ (T.setTop (mkF m 62 #[.val (.long p0), .second, .val (.long p1), .second, .val (.long p2), .second, .val (.int p3), .val (.int lA), .val (.int ca), .val (.int cb), .val (.int lB), .val (.int (1 : Int32)), .unset, .unset, .unset, .unset, .unset, .unset, .unset, .unset, .unset, .unset] [(.int ca)]))
    refine Go.st (fun _ k => XS.lloadN X.here hx rfl (hb hby at_62) rfl k) ?_
    show Go p e below _ (T.setTop (mkF m 63 #[.val (.long p0), .second, .val (.long p1), .second, .val (.long p2), .second, .val (.int p3), .val (.int lA), .val (.int ca), .val (.int cb), .val (.int lB), .val (.int (1 : Int32)), .unset, .unset, .unset, .unset, .unset, .unset, .unset, .unset, .unset, .unset] [(.long p1), (.int ca)]))
    refine Go.st (fun _ k => XS.iconst X.here hx rfl (hb hby at_63) k) ?_
    show Go p e below _ (T.setTop (mkF m 64 #[.val (.long p0), .second, .val (.long p1), .second, .val (.long p2), .second, .val (.int p3), .val (.int lA), .val (.int ca), .val (.int cb), .val (.int lB), .val (.int (1 : Int32)), .unset, .unset, .unset, .unset, .unset, .unset, .unset, .unset, .unset, .unset] [(.int (2 : Int32)), (.long p1), (.int ca)]))
    refine Go.st (fun _ k => XS.lushr X.here hx rfl (hb hby at_64) rfl k) ?_
    show Go p e below _ (T.setTop (mkF m 65 #[.val (.long p0), .second, .val (.long p1), .second, .val (.long p2), .second, .val (.int p3), .val (.int lA), .val (.int ca), .val (.int cb), .val (.int lB), .val (.int (1 : Int32)), .unset, .unset, .unset, .unset, .unset, .unset, .unset, .unset, .unset, .unset] [(.long (((p1).toUInt64 >>> ((2 : Int32) &&& 0x3f).toInt64.toUInt64).toInt64)), (.int ca)]))
    refine Go.st (fun _ k => XS.lconst X.here hx rfl (hb hby at_65) k) ?_
    show Go p e below _ (T.setTop (mkF m 66 #[.val (.long p0), .second, .val (.long p1), .second, .val (.long p2), .second, .val (.int p3), .val (.int lA), .val (.int ca), .val (.int cb), .val (.int lB), .val (.int (1 : Int32)), .unset, .unset, .unset, .unset, .unset, .unset, .unset, .unset, .unset, .unset] [(.long (1 : Int64)), (.long (((p1).toUInt64 >>> ((2 : Int32) &&& 0x3f).toInt64.toUInt64).toInt64)), (.int ca)]))
    refine Go.st (fun _ k => XS.land X.here hx rfl (hb hby at_66) rfl k) ?_
    show Go p e below _ (T.setTop (mkF m 67 #[.val (.long p0), .second, .val (.long p1), .second, .val (.long p2), .second, .val (.int p3), .val (.int lA), .val (.int ca), .val (.int cb), .val (.int lB), .val (.int (1 : Int32)), .unset, .unset, .unset, .unset, .unset, .unset, .unset, .unset, .unset, .unset] [(.long ((((p1).toUInt64 >>> ((2 : Int32) &&& 0x3f).toInt64.toUInt64).toInt64) &&& (1 : Int64))), (.int ca)]))
    refine Go.st (fun _ k => XS.l2i X.here hx rfl (hb hby at_67) rfl k) ?_
    show Go p e below _ (T.setTop (mkF m 68 #[.val (.long p0), .second, .val (.long p1), .second, .val (.long p2), .second, .val (.int p3), .val (.int lA), .val (.int ca), .val (.int cb), .val (.int lB), .val (.int (1 : Int32)), .unset, .unset, .unset, .unset, .unset, .unset, .unset, .unset, .unset, .unset] [(.int (((((p1).toUInt64 >>> ((2 : Int32) &&& 0x3f).toInt64.toUInt64).toInt64) &&& (1 : Int64)).toInt32)), (.int ca)]))
    refine Go.st (fun _ k => XS.ixor X.here hx rfl (hb hby at_68) rfl k) ?_
    show Go p e below _ (T.setTop (mkF m 69 #[.val (.long p0), .second, .val (.long p1), .second, .val (.long p2), .second, .val (.int p3), .val (.int lA), .val (.int ca), .val (.int cb), .val (.int lB), .val (.int (1 : Int32)), .unset, .unset, .unset, .unset, .unset, .unset, .unset, .unset, .unset, .unset] [(.int (ca ^^^ (((((p1).toUInt64 >>> ((2 : Int32) &&& 0x3f).toInt64.toUInt64).toInt64) &&& (1 : Int64)).toInt32)))]))
    obtain ⟨da, hda⟩ : ∃ z, z = (ca ^^^ (((((p1).toUInt64 >>> ((2 : Int32) &&& 0x3f).toInt64.toUInt64).toInt64) &&& (1 : Int64)).toInt32)) := ⟨_, rfl⟩
    rw [← hda]
    show Go p e below _ (T.setTop (mkF m 69 #[.val (.long p0), .second, .val (.long p1), .second, .val (.long p2), .second, .val (.int p3), .val (.int lA), .val (.int ca), .val (.int cb), .val (.int lB), .val (.int (1 : Int32)), .unset, .unset, .unset, .unset, .unset, .unset, .unset, .unset, .unset, .unset] [(.int da)]))
    refine Go.st (fun _ k => XS.istore X.here hx rfl (hb hby at_69) rfl (l' := #[.val (.long p0), .second, .val (.long p1), .second, .val (.long p2), .second, .val (.int p3), .val (.int lA), .val (.int ca), .val (.int cb), .val (.int lB), .val (.int (1 : Int32)), .val (.int da), .unset, .unset, .unset, .unset, .unset, .unset, .unset, .unset, .unset]) rfl k) ?_
    show Go p e below _ (T.setTop (mkF m 71 #[.val (.long p0), .second, .val (.long p1), .second, .val (.long p2), .second, .val (.int p3), .val (.int lA), .val (.int ca), .val (.int cb), .val (.int lB), .val (.int (1 : Int32)), .val (.int da), .unset, .unset, .unset, .unset, .unset, .unset, .unset, .unset, .unset] []))
    refine Go.st (fun _ k => XS.iload X.here hx rfl (hb hby at_71) rfl k) ?_
    show Go p e below _ (T.setTop (mkF m 73 #[.val (.long p0), .second, .val (.long p1), .second, .val (.long p2), .second, .val (.int p3), .val (.int lA), .val (.int ca), .val (.int cb), .val (.int lB), .val (.int (1 : Int32)), .val (.int da), .unset, .unset, .unset, .unset, .unset, .unset, .unset, .unset, .unset] [(.int cb)]))
    refine Go.st (fun _ k => XS.lloadN X.here hx rfl (hb hby at_73) rfl k) ?_
    show Go p e below _ (T.setTop (mkF m 74 #[.val (.long p0), .second, .val (.long p1), .second, .val (.long p2), .second, .val (.int p3), .val (.int lA), .val (.int ca), .val (.int cb), .val (.int lB), .val (.int (1 : Int32)), .val (.int da), .unset, .unset, .unset, .unset, .unset, .unset, .unset, .unset, .unset] [(.long p1), (.int cb)]))
    refine Go.st (fun _ k => XS.iconst X.here hx rfl (hb hby at_74) k) ?_
    show Go p e below _ (T.setTop (mkF m 75 #[.val (.long p0), .second, .val (.long p1), .second, .val (.long p2), .second, .val (.int p3), .val (.int lA), .val (.int ca), .val (.int cb), .val (.int lB), .val (.int (1 : Int32)), .val (.int da), .unset, .unset, .unset, .unset, .unset, .unset, .unset, .unset, .unset] [(.int (3 : Int32)), (.long p1), (.int cb)]))
    refine Go.st (fun _ k => XS.lushr X.here hx rfl (hb hby at_75) rfl k) ?_
    show Go p e below _ (T.setTop (mkF m 76 #[.val (.long p0), .second, .val (.long p1), .second, .val (.long p2), .second, .val (.int p3), .val (.int lA), .val (.int ca), .val (.int cb), .val (.int lB), .val (.int (1 : Int32)), .val (.int da), .unset, .unset, .unset, .unset, .unset, .unset, .unset, .unset, .unset] [(.long (((p1).toUInt64 >>> ((3 : Int32) &&& 0x3f).toInt64.toUInt64).toInt64)), (.int cb)]))
    refine Go.st (fun _ k => XS.lconst X.here hx rfl (hb hby at_76) k) ?_
    show Go p e below _ (T.setTop (mkF m 77 #[.val (.long p0), .second, .val (.long p1), .second, .val (.long p2), .second, .val (.int p3), .val (.int lA), .val (.int ca), .val (.int cb), .val (.int lB), .val (.int (1 : Int32)), .val (.int da), .unset, .unset, .unset, .unset, .unset, .unset, .unset, .unset, .unset] [(.long (1 : Int64)), (.long (((p1).toUInt64 >>> ((3 : Int32) &&& 0x3f).toInt64.toUInt64).toInt64)), (.int cb)]))
    refine Go.st (fun _ k => XS.land X.here hx rfl (hb hby at_77) rfl k) ?_
    show Go p e below _ (T.setTop (mkF m 78 #[.val (.long p0), .second, .val (.long p1), .second, .val (.long p2), .second, .val (.int p3), .val (.int lA), .val (.int ca), .val (.int cb), .val (.int lB), .val (.int (1 : Int32)), .val (.int da), .unset, .unset, .unset, .unset, .unset, .unset, .unset, .unset, .unset] [(.long ((((p1).toUInt64 >>> ((3 : Int32) &&& 0x3f).toInt64.toUInt64).toInt64) &&& (1 : Int64))), (.int cb)]))
    refine Go.st (fun _ k => XS.l2i X.here hx rfl (hb hby at_78) rfl k) ?_
    show Go p e below _ (T.setTop (mkF m 79 #[.val (.long p0), .second, .val (.long p1), .second, .val (.long p2), .second, .val (.int p3), .val (.int lA), .val (.int ca), .val (.int cb), .val (.int lB), .val (.int (1 : Int32)), .val (.int da), .unset, .unset, .unset, .unset, .unset, .unset, .unset, .unset, .unset] [(.int (((((p1).toUInt64 >>> ((3 : Int32) &&& 0x3f).toInt64.toUInt64).toInt64) &&& (1 : Int64)).toInt32)), (.int cb)]))
    refine Go.st (fun _ k => XS.ixor X.here hx rfl (hb hby at_79) rfl k) ?_
    show Go p e below _ (T.setTop (mkF m 80 #[.val (.long p0), .second, .val (.long p1), .second, .val (.long p2), .second, .val (.int p3), .val (.int lA), .val (.int ca), .val (.int cb), .val (.int lB), .val (.int (1 : Int32)), .val (.int da), .unset, .unset, .unset, .unset, .unset, .unset, .unset, .unset, .unset] [(.int (cb ^^^ (((((p1).toUInt64 >>> ((3 : Int32) &&& 0x3f).toInt64.toUInt64).toInt64) &&& (1 : Int64)).toInt32)))]))
    obtain ⟨db, hdb⟩ : ∃ z, z = (cb ^^^ (((((p1).toUInt64 >>> ((3 : Int32) &&& 0x3f).toInt64.toUInt64).toInt64) &&& (1 : Int64)).toInt32)) := ⟨_, rfl⟩
    rw [← hdb]
    show Go p e below _ (T.setTop (mkF m 80 #[.val (.long p0), .second, .val (.long p1), .second, .val (.long p2), .second, .val (.int p3), .val (.int lA), .val (.int ca), .val (.int cb), .val (.int lB), .val (.int (1 : Int32)), .val (.int da), .unset, .unset, .unset, .unset, .unset, .unset, .unset, .unset, .unset] [(.int db)]))
    refine Go.st (fun _ k => XS.istore X.here hx rfl (hb hby at_80) rfl (l' := #[.val (.long p0), .second, .val (.long p1), .second, .val (.long p2), .second, .val (.int p3), .val (.int lA), .val (.int ca), .val (.int cb), .val (.int lB), .val (.int (1 : Int32)), .val (.int da), .val (.int db), .unset, .unset, .unset, .unset, .unset, .unset, .unset, .unset]) rfl k) ?_
    show Go p e below _ (T.setTop (mkF m 82 #[.val (.long p0), .second, .val (.long p1), .second, .val (.long p2), .second, .val (.int p3), .val (.int lA), .val (.int ca), .val (.int cb), .val (.int lB), .val (.int (1 : Int32)), .val (.int da), .val (.int db), .unset, .unset, .unset, .unset, .unset, .unset, .unset, .unset] []))
    refine Go.st (fun _ k => XS.goto X.here hx rfl (pc0 := 82) (pc' := 106) rfl (hb hby at_82) (by decide) (by decide) k) ?_
    show Go p e below _ (T.setTop (mkF m 106 #[.val (.long p0), .second, .val (.long p1), .second, .val (.long p2), .second, .val (.int p3), .val (.int lA), .val (.int ca), .val (.int cb), .val (.int lB), .val (.int (1 : Int32)), .val (.int da), .val (.int db), .unset, .unset, .unset, .unset, .unset, .unset, .unset, .unset] []))
    refine Go.st (fun _ k => XS.iload X.here hx rfl (hb hby at_106) rfl k) ?_
    show Go p e below _ (T.setTop (mkF m 108 #[.val (.long p0), .second, .val (.long p1), .second, .val (.long p2), .second, .val (.int p3), .val (.int lA), .val (.int ca), .val (.int cb), .val (.int lB), .val (.int (1 : Int32)), .val (.int da), .val (.int db), .unset, .unset, .unset, .unset, .unset, .unset, .unset, .unset] [(.int lA)]))
    refine Go.st (fun _ k => XS.iload X.here hx rfl (hb hby at_108) rfl k) ?_
    show Go p e below _ (T.setTop (mkF m 110 #[.val (.long p0), .second, .val (.long p1), .second, .val (.long p2), .second, .val (.int p3), .val (.int lA), .val (.int ca), .val (.int cb), .val (.int lB), .val (.int (1 : Int32)), .val (.int da), .val (.int db), .unset, .unset, .unset, .unset, .unset, .unset, .unset, .unset] [(.int ca), (.int lA)]))
    refine Go.st (fun _ k => XS.iload X.here hx rfl (hb hby at_110) rfl k) ?_
    show Go p e below _ (T.setTop (mkF m 112 #[.val (.long p0), .second, .val (.long p1), .second, .val (.long p2), .second, .val (.int p3), .val (.int lA), .val (.int ca), .val (.int cb), .val (.int lB), .val (.int (1 : Int32)), .val (.int da), .val (.int db), .unset, .unset, .unset, .unset, .unset, .unset, .unset, .unset] [(.int cb), (.int ca), (.int lA)]))
    refine Go.callH (argsL := [(.int lA), (.int ca), (.int cb)]) (rest := []) (W := 0) (ck := 6) (sk := 14) H X hx hZ hown (hml.trans rfl) hT (hw _ (List.mem_of_getElem? (i := 2) rfl)) (hw _ (List.mem_of_getElem? (i := 3) rfl)) (hw _ (List.mem_of_getElem? (i := 4) rfl)) (hw _ (List.mem_of_getElem? (i := 5) rfl)) (by decide) pd_10 rfl rfl (Nat.le_of_ble_eq_true rfl) (hb hby at_112) (backOfSH (W := 0) (met_str l Z a0 hw [] lA ca cb z n0 h0 O Sc S16) hZ (hw _ (List.mem_of_getElem? (i := 5) rfl)) (hw _ (List.mem_of_getElem? (i := 4) rfl)) (by decide) (by decide) hEL H.2.1) (by decide) (by decide) ?_
    intro v T h9 L vm hT hQ hZ hown H Rc X
    obtain ⟨o18, rfl, N0, Ex0, S_o18⟩ := hQ
    have N := Fr.app N N0
    have KB := (Keep.refl h0 []).ext Ex0
    have O := O.keep KB all0
    show Go p e below _ (T.setTop (mkF m 115 #[.val (.long p0), .second, .val (.long p1), .second, .val (.long p2), .second, .val (.int p3), .val (.int lA), .val (.int ca), .val (.int cb), .val (.int lB), .val (.int (1 : Int32)), .val (.int da), .val (.int db), .unset, .unset, .unset, .unset, .unset, .unset, .unset, .unset] [(.ref o18)]))
    refine Go.st (fun _ k => XS.astore X.here hx rfl (hb hby at_115) rfl rfl (l' := #[.val (.long p0), .second, .val (.long p1), .second, .val (.long p2), .second, .val (.int p3), .val (.int lA), .val (.int ca), .val (.int cb), .val (.int lB), .val (.int (1 : Int32)), .val (.int da), .val (.int db), .val (.ref o18), .unset, .unset, .unset, .unset, .unset, .unset, .unset]) rfl k) ?_
    show Go p e below _ (T.setTop (mkF m 117 #[.val (.long p0), .second, .val (.long p1), .second, .val (.long p2), .second, .val (.int p3), .val (.int lA), .val (.int ca), .val (.int cb), .val (.int lB), .val (.int (1 : Int32)), .val (.int da), .val (.int db), .val (.ref o18), .unset, .unset, .unset, .unset, .unset, .unset, .unset] []))
    refine Go.st (fun _ k => XS.iload X.here hx rfl (hb hby at_117) rfl k) ?_
    show Go p e below _ (T.setTop (mkF m 119 #[.val (.long p0), .second, .val (.long p1), .second, .val (.long p2), .second, .val (.int p3), .val (.int lA), .val (.int ca), .val (.int cb), .val (.int lB), .val (.int (1 : Int32)), .val (.int da), .val (.int db), .val (.ref o18), .unset, .unset, .unset, .unset, .unset, .unset, .unset] [(.int lB)]))
    refine Go.st (fun _ k => XS.iload X.here hx rfl (hb hby at_119) rfl k) ?_
    show Go p e below _ (T.setTop (mkF m 121 #[.val (.long p0), .second, .val (.long p1), .second, .val (.long p2), .second, .val (.int p3), .val (.int lA), .val (.int ca), .val (.int cb), .val (.int lB), .val (.int (1 : Int32)), .val (.int da), .val (.int db), .val (.ref o18), .unset, .unset, .unset, .unset, .unset, .unset, .unset] [(.int da), (.int lB)]))
    refine Go.st (fun _ k => XS.iload X.here hx rfl (hb hby at_121) rfl k) ?_
    show Go p e below _ (T.setTop (mkF m 123 #[.val (.long p0), .second, .val (.long p1), .second, .val (.long p2), .second, .val (.int p3), .val (.int lA), .val (.int ca), .val (.int cb), .val (.int lB), .val (.int (1 : Int32)), .val (.int da), .val (.int db), .val (.ref o18), .unset, .unset, .unset, .unset, .unset, .unset, .unset] [(.int db), (.int da), (.int lB)]))
    refine Go.callH (argsL := [(.int lB), (.int da), (.int db)]) (rest := []) (W := 0) (ck := 6) (sk := 14) H X hx hZ hown (hml.trans rfl) hT (hw _ (List.mem_of_getElem? (i := 2) rfl)) (hw _ (List.mem_of_getElem? (i := 3) rfl)) (hw _ (List.mem_of_getElem? (i := 4) rfl)) (hw _ (List.mem_of_getElem? (i := 5) rfl)) (by decide) pd_10 rfl rfl (Nat.le_of_ble_eq_true rfl) (hb hby at_123) (backOfSH (W := 0) (met_str l Z a0 hw [] lB da db z n0 h9 O Sc S16) hZ (hw _ (List.mem_of_getElem? (i := 5) rfl)) (hw _ (List.mem_of_getElem? (i := 4) rfl)) (by decide) (by decide) hEL H.2.1) (by decide) (by decide) ?_
    intro v T h10 L vm hT hQ hZ hown H Rc X
    obtain ⟨o19, rfl, N0, Ex0, S_o19⟩ := hQ
    have N := Fr.app N N0
    have KB := (Keep.refl h9 []).ext Ex0
    have O := O.keep KB all0
    have S_o18 := S_o18.ext (keepE KB)
    show Go p e below _ (T.setTop (mkF m 126 #[.val (.long p0), .second, .val (.long p1), .second, .val (.long p2), .second, .val (.int p3), .val (.int lA), .val (.int ca), .val (.int cb), .val (.int lB), .val (.int (1 : Int32)), .val (.int da), .val (.int db), .val (.ref o18), .unset, .unset, .unset, .unset, .unset, .unset, .unset] [(.ref o19)]))
    refine Go.st (fun _ k => XS.astore X.here hx rfl (hb hby at_126) rfl rfl (l' := #[.val (.long p0), .second, .val (.long p1), .second, .val (.long p2), .second, .val (.int p3), .val (.int lA), .val (.int ca), .val (.int cb), .val (.int lB), .val (.int (1 : Int32)), .val (.int da), .val (.int db), .val (.ref o18), .val (.ref o19), .unset, .unset, .unset, .unset, .unset, .unset]) rfl k) ?_
    show Go p e below _ (T.setTop (mkF m 128 #[.val (.long p0), .second, .val (.long p1), .second, .val (.long p2), .second, .val (.int p3), .val (.int lA), .val (.int ca), .val (.int cb), .val (.int lB), .val (.int (1 : Int32)), .val (.int da), .val (.int db), .val (.ref o18), .val (.ref o19), .unset, .unset, .unset, .unset, .unset, .unset] []))
    refine Go.st (fun _ k => XS.lload X.here hx rfl (hb hby at_128) rfl k) ?_
    show Go p e below _ (T.setTop (mkF m 130 #[.val (.long p0), .second, .val (.long p1), .second, .val (.long p2), .second, .val (.int p3), .val (.int lA), .val (.int ca), .val (.int cb), .val (.int lB), .val (.int (1 : Int32)), .val (.int da), .val (.int db), .val (.ref o18), .val (.ref o19), .unset, .unset, .unset, .unset, .unset, .unset] [(.long p2)]))
    refine Go.st (fun _ k => X.ldc2J hx hown (mvT hZ (hw _ (List.mem_of_getElem? (i := 0) rfl))) rfl (hb hby at_130) k) ?_
    show Go p e below _ (T.setTop (mkF m 133 #[.val (.long p0), .second, .val (.long p1), .second, .val (.long p2), .second, .val (.int p3), .val (.int lA), .val (.int ca), .val (.int cb), .val (.int lB), .val (.int (1 : Int32)), .val (.int da), .val (.int db), .val (.ref o18), .val (.ref o19), .unset, .unset, .unset, .unset, .unset, .unset] [(.long (3 : Int64)), (.long p2)]))
    refine Go.st (fun _ k => XS.land X.here hx rfl (hb hby at_133) rfl k) ?_
    show Go p e below _ (T.setTop (mkF m 134 #[.val (.long p0), .second, .val (.long p1), .second, .val (.long p2), .second, .val (.int p3), .val (.int lA), .val (.int ca), .val (.int cb), .val (.int lB), .val (.int (1 : Int32)), .val (.int da), .val (.int db), .val (.ref o18), .val (.ref o19), .unset, .unset, .unset, .unset, .unset, .unset] [(.long (p2 &&& (3 : Int64)))]))
    refine Go.st (fun _ k => XS.l2i X.here hx rfl (hb hby at_134) rfl k) ?_
    show Go p e below _ (T.setTop (mkF m 135 #[.val (.long p0), .second, .val (.long p1), .second, .val (.long p2), .second, .val (.int p3), .val (.int lA), .val (.int ca), .val (.int cb), .val (.int lB), .val (.int (1 : Int32)), .val (.int da), .val (.int db), .val (.ref o18), .val (.ref o19), .unset, .unset, .unset, .unset, .unset, .unset] [(.int ((p2 &&& (3 : Int64)).toInt32))]))
    refine Go.st (fun _ k => XS.iconst X.here hx rfl (hb hby at_135) k) ?_
    show Go p e below _ (T.setTop (mkF m 136 #[.val (.long p0), .second, .val (.long p1), .second, .val (.long p2), .second, .val (.int p3), .val (.int lA), .val (.int ca), .val (.int cb), .val (.int lB), .val (.int (1 : Int32)), .val (.int da), .val (.int db), .val (.ref o18), .val (.ref o19), .unset, .unset, .unset, .unset, .unset, .unset] [(.int (3 : Int32)), (.int ((p2 &&& (3 : Int64)).toInt32))]))
    refine Go.st (fun _ k => iremM X hx rfl (hb hby at_136) rfl (by decide) k) ?_
    show Go p e below _ (T.setTop (mkF m 137 #[.val (.long p0), .second, .val (.long p1), .second, .val (.long p2), .second, .val (.int p3), .val (.int lA), .val (.int ca), .val (.int cb), .val (.int lB), .val (.int (1 : Int32)), .val (.int da), .val (.int db), .val (.ref o18), .val (.ref o19), .unset, .unset, .unset, .unset, .unset, .unset] [(.int (((p2 &&& (3 : Int64)).toInt32) % (3 : Int32)))]))
    refine Go.st (fun _ k => XS.lload X.here hx rfl (hb hby at_137) rfl k) ?_
    show Go p e below _ (T.setTop (mkF m 139 #[.val (.long p0), .second, .val (.long p1), .second, .val (.long p2), .second, .val (.int p3), .val (.int lA), .val (.int ca), .val (.int cb), .val (.int lB), .val (.int (1 : Int32)), .val (.int da), .val (.int db), .val (.ref o18), .val (.ref o19), .unset, .unset, .unset, .unset, .unset, .unset] [(.long p2), (.int (((p2 &&& (3 : Int64)).toInt32) % (3 : Int32)))]))
    refine Go.st (fun _ k => XS.iconst X.here hx rfl (hb hby at_139) k) ?_
    show Go p e below _ (T.setTop (mkF m 140 #[.val (.long p0), .second, .val (.long p1), .second, .val (.long p2), .second, .val (.int p3), .val (.int lA), .val (.int ca), .val (.int cb), .val (.int lB), .val (.int (1 : Int32)), .val (.int da), .val (.int db), .val (.ref o18), .val (.ref o19), .unset, .unset, .unset, .unset, .unset, .unset] [(.int (2 : Int32)), (.long p2), (.int (((p2 &&& (3 : Int64)).toInt32) % (3 : Int32)))]))
    refine Go.st (fun _ k => XS.lushr X.here hx rfl (hb hby at_140) rfl k) ?_
    show Go p e below _ (T.setTop (mkF m 141 #[.val (.long p0), .second, .val (.long p1), .second, .val (.long p2), .second, .val (.int p3), .val (.int lA), .val (.int ca), .val (.int cb), .val (.int lB), .val (.int (1 : Int32)), .val (.int da), .val (.int db), .val (.ref o18), .val (.ref o19), .unset, .unset, .unset, .unset, .unset, .unset] [(.long (((p2).toUInt64 >>> ((2 : Int32) &&& 0x3f).toInt64.toUInt64).toInt64)), (.int (((p2 &&& (3 : Int64)).toInt32) % (3 : Int32)))]))
    refine Go.st (fun _ k => X.ldc2J hx hown (mvT hZ (hw _ (List.mem_of_getElem? (i := 1) rfl))) rfl (hb hby at_141) k) ?_
    show Go p e below _ (T.setTop (mkF m 144 #[.val (.long p0), .second, .val (.long p1), .second, .val (.long p2), .second, .val (.int p3), .val (.int lA), .val (.int ca), .val (.int cb), .val (.int lB), .val (.int (1 : Int32)), .val (.int da), .val (.int db), .val (.ref o18), .val (.ref o19), .unset, .unset, .unset, .unset, .unset, .unset] [(.long (65535 : Int64)), (.long (((p2).toUInt64 >>> ((2 : Int32) &&& 0x3f).toInt64.toUInt64).toInt64)), (.int (((p2 &&& (3 : Int64)).toInt32) % (3 : Int32)))]))
    refine Go.st (fun _ k => XS.land X.here hx rfl (hb hby at_144) rfl k) ?_
    show Go p e below _ (T.setTop (mkF m 145 #[.val (.long p0), .second, .val (.long p1), .second, .val (.long p2), .second, .val (.int p3), .val (.int lA), .val (.int ca), .val (.int cb), .val (.int lB), .val (.int (1 : Int32)), .val (.int da), .val (.int db), .val (.ref o18), .val (.ref o19), .unset, .unset, .unset, .unset, .unset, .unset] [(.long ((((p2).toUInt64 >>> ((2 : Int32) &&& 0x3f).toInt64.toUInt64).toInt64) &&& (65535 : Int64))), (.int (((p2 &&& (3 : Int64)).toInt32) % (3 : Int32)))]))
    refine Go.st (fun _ k => XS.l2i X.here hx rfl (hb hby at_145) rfl k) ?_
    show Go p e below _ (T.setTop (mkF m 146 #[.val (.long p0), .second, .val (.long p1), .second, .val (.long p2), .second, .val (.int p3), .val (.int lA), .val (.int ca), .val (.int cb), .val (.int lB), .val (.int (1 : Int32)), .val (.int da), .val (.int db), .val (.ref o18), .val (.ref o19), .unset, .unset, .unset, .unset, .unset, .unset] [(.int (((((p2).toUInt64 >>> ((2 : Int32) &&& 0x3f).toInt64.toUInt64).toInt64) &&& (65535 : Int64)).toInt32)), (.int (((p2 &&& (3 : Int64)).toInt32) % (3 : Int32)))]))
    refine Go.st (fun _ k => XS.lload X.here hx rfl (hb hby at_146) rfl k) ?_
    show Go p e below _ (T.setTop (mkF m 148 #[.val (.long p0), .second, .val (.long p1), .second, .val (.long p2), .second, .val (.int p3), .val (.int lA), .val (.int ca), .val (.int cb), .val (.int lB), .val (.int (1 : Int32)), .val (.int da), .val (.int db), .val (.ref o18), .val (.ref o19), .unset, .unset, .unset, .unset, .unset, .unset] [(.long p2), (.int (((((p2).toUInt64 >>> ((2 : Int32) &&& 0x3f).toInt64.toUInt64).toInt64) &&& (65535 : Int64)).toInt32)), (.int (((p2 &&& (3 : Int64)).toInt32) % (3 : Int32)))]))
    refine Go.st (fun _ k => XS.bipush X.here hx rfl (hb hby at_148) k) ?_
    show Go p e below _ (T.setTop (mkF m 150 #[.val (.long p0), .second, .val (.long p1), .second, .val (.long p2), .second, .val (.int p3), .val (.int lA), .val (.int ca), .val (.int cb), .val (.int lB), .val (.int (1 : Int32)), .val (.int da), .val (.int db), .val (.ref o18), .val (.ref o19), .unset, .unset, .unset, .unset, .unset, .unset] [(.int (18 : Int32)), (.long p2), (.int (((((p2).toUInt64 >>> ((2 : Int32) &&& 0x3f).toInt64.toUInt64).toInt64) &&& (65535 : Int64)).toInt32)), (.int (((p2 &&& (3 : Int64)).toInt32) % (3 : Int32)))]))
    refine Go.st (fun _ k => XS.lushr X.here hx rfl (hb hby at_150) rfl k) ?_
    show Go p e below _ (T.setTop (mkF m 151 #[.val (.long p0), .second, .val (.long p1), .second, .val (.long p2), .second, .val (.int p3), .val (.int lA), .val (.int ca), .val (.int cb), .val (.int lB), .val (.int (1 : Int32)), .val (.int da), .val (.int db), .val (.ref o18), .val (.ref o19), .unset, .unset, .unset, .unset, .unset, .unset] [(.long (((p2).toUInt64 >>> ((18 : Int32) &&& 0x3f).toInt64.toUInt64).toInt64)), (.int (((((p2).toUInt64 >>> ((2 : Int32) &&& 0x3f).toInt64.toUInt64).toInt64) &&& (65535 : Int64)).toInt32)), (.int (((p2 &&& (3 : Int64)).toInt32) % (3 : Int32)))]))
    refine Go.st (fun _ k => X.ldc2J hx hown (mvT hZ (hw _ (List.mem_of_getElem? (i := 1) rfl))) rfl (hb hby at_151) k) ?_
    show Go p e below _ (T.setTop (mkF m 154 #[.val (.long p0), .second, .val (.long p1), .second, .val (.long p2), .second, .val (.int p3), .val (.int lA), .val (.int ca), .val (.int cb), .val (.int lB), .val (.int (1 : Int32)), .val (.int da), .val (.int db), .val (.ref o18), .val (.ref o19), .unset, .unset, .unset, .unset, .unset, .unset] [(.long (65535 : Int64)), (.long (((p2).toUInt64 >>> ((18 : Int32) &&& 0x3f).toInt64.toUInt64).toInt64)), (.int (((((p2).toUInt64 >>> ((2 : Int32) &&& 0x3f).toInt64.toUInt64).toInt64) &&& (65535 : Int64)).toInt32)), (.int (((p2 &&& (3 : Int64)).toInt32) % (3 : Int32)))]))
    refine Go.st (fun _ k => XS.land X.here hx rfl (hb hby at_154) rfl k) ?_
    show Go p e below _ (T.setTop (mkF m 155 #[.val (.long p0), .second, .val (.long p1), .second, .val (.long p2), .second, .val (.int p3), .val (.int lA), .val (.int ca), .val (.int cb), .val (.int lB), .val (.int (1 : Int32)), .val (.int da), .val (.int db), .val (.ref o18), .val (.ref o19), .unset, .unset, .unset, .unset, .unset, .unset] [(.long ((((p2).toUInt64 >>> ((18 : Int32) &&& 0x3f).toInt64.toUInt64).toInt64) &&& (65535 : Int64))), (.int (((((p2).toUInt64 >>> ((2 : Int32) &&& 0x3f).toInt64.toUInt64).toInt64) &&& (65535 : Int64)).toInt32)), (.int (((p2 &&& (3 : Int64)).toInt32) % (3 : Int32)))]))
    refine Go.st (fun _ k => XS.l2i X.here hx rfl (hb hby at_155) rfl k) ?_
    show Go p e below _ (T.setTop (mkF m 156 #[.val (.long p0), .second, .val (.long p1), .second, .val (.long p2), .second, .val (.int p3), .val (.int lA), .val (.int ca), .val (.int cb), .val (.int lB), .val (.int (1 : Int32)), .val (.int da), .val (.int db), .val (.ref o18), .val (.ref o19), .unset, .unset, .unset, .unset, .unset, .unset] [(.int (((((p2).toUInt64 >>> ((18 : Int32) &&& 0x3f).toInt64.toUInt64).toInt64) &&& (65535 : Int64)).toInt32)), (.int (((((p2).toUInt64 >>> ((2 : Int32) &&& 0x3f).toInt64.toUInt64).toInt64) &&& (65535 : Int64)).toInt32)), (.int (((p2 &&& (3 : Int64)).toInt32) % (3 : Int32)))]))
    refine Go.callH (argsL := [(.int (((p2 &&& (3 : Int64)).toInt32) % (3 : Int32))), (.int (((((p2).toUInt64 >>> ((2 : Int32) &&& 0x3f).toInt64.toUInt64).toInt64) &&& (65535 : Int64)).toInt32)), (.int (((((p2).toUInt64 >>> ((18 : Int32) &&& 0x3f).toInt64.toUInt64).toInt64) &&& (65535 : Int64)).toInt32))]) (rest := []) (W := 0) (ck := 6) (sk := 14) H X hx hZ hown (hml.trans rfl) hT (hw _ (List.mem_of_getElem? (i := 2) rfl)) (hw _ (List.mem_of_getElem? (i := 3) rfl)) (hw _ (List.mem_of_getElem? (i := 4) rfl)) (hw _ (List.mem_of_getElem? (i := 5) rfl)) (by decide) pd_10 rfl rfl (Nat.le_of_ble_eq_true rfl) (hb hby at_156) (backOfSH (W := 0) (met_str l Z a0 hw [] (((p2 &&& (3 : Int64)).toInt32) % (3 : Int32)) (((((p2).toUInt64 >>> ((2 : Int32) &&& 0x3f).toInt64.toUInt64).toInt64) &&& (65535 : Int64)).toInt32) (((((p2).toUInt64 >>> ((18 : Int32) &&& 0x3f).toInt64.toUInt64).toInt64) &&& (65535 : Int64)).toInt32) z n0 h10 O Sc S16) hZ (hw _ (List.mem_of_getElem? (i := 5) rfl)) (hw _ (List.mem_of_getElem? (i := 4) rfl)) (by decide) (by decide) hEL H.2.1) (by decide) (by decide) ?_
    intro v T h11 L vm hT hQ hZ hown H Rc X
    obtain ⟨o20, rfl, N0, Ex0, S_o20⟩ := hQ
    have N := Fr.app N N0
    have KB := (Keep.refl h10 []).ext Ex0
    have O := O.keep KB all0
    have S_o18 := S_o18.ext (keepE KB)
    have S_o19 := S_o19.ext (keepE KB)
    show Go p e below _ (T.setTop (mkF m 159 #[.val (.long p0), .second, .val (.long p1), .second, .val (.long p2), .second, .val (.int p3), .val (.int lA), .val (.int ca), .val (.int cb), .val (.int lB), .val (.int (1 : Int32)), .val (.int da), .val (.int db), .val (.ref o18), .val (.ref o19), .unset, .unset, .unset, .unset, .unset, .unset] [(.ref o20)]))
    refine Go.st (fun _ k => XS.astore X.here hx rfl (hb hby at_159) rfl rfl (l' := #[.val (.long p0), .second, .val (.long p1), .second, .val (.long p2), .second, .val (.int p3), .val (.int lA), .val (.int ca), .val (.int cb), .val (.int lB), .val (.int (1 : Int32)), .val (.int da), .val (.int db), .val (.ref o18), .val (.ref o19), .val (.ref o20), .unset, .unset, .unset, .unset, .unset]) rfl k) ?_
    show Go p e below _ (T.setTop (mkF m 161 #[.val (.long p0), .second, .val (.long p1), .second, .val (.long p2), .second, .val (.int p3), .val (.int lA), .val (.int ca), .val (.int cb), .val (.int lB), .val (.int (1 : Int32)), .val (.int da), .val (.int db), .val (.ref o18), .val (.ref o19), .val (.ref o20), .unset, .unset, .unset, .unset, .unset] []))
    refine Go.st (fun _ k => XS.lload X.here hx rfl (hb hby at_161) rfl k) ?_
    show Go p e below _ (T.setTop (mkF m 163 #[.val (.long p0), .second, .val (.long p1), .second, .val (.long p2), .second, .val (.int p3), .val (.int lA), .val (.int ca), .val (.int cb), .val (.int lB), .val (.int (1 : Int32)), .val (.int da), .val (.int db), .val (.ref o18), .val (.ref o19), .val (.ref o20), .unset, .unset, .unset, .unset, .unset] [(.long p2)]))
    refine Go.st (fun _ k => XS.bipush X.here hx rfl (hb hby at_163) k) ?_
    show Go p e below _ (T.setTop (mkF m 165 #[.val (.long p0), .second, .val (.long p1), .second, .val (.long p2), .second, .val (.int p3), .val (.int lA), .val (.int ca), .val (.int cb), .val (.int lB), .val (.int (1 : Int32)), .val (.int da), .val (.int db), .val (.ref o18), .val (.ref o19), .val (.ref o20), .unset, .unset, .unset, .unset, .unset] [(.int (34 : Int32)), (.long p2)]))
    refine Go.st (fun _ k => XS.lushr X.here hx rfl (hb hby at_165) rfl k) ?_
    show Go p e below _ (T.setTop (mkF m 166 #[.val (.long p0), .second, .val (.long p1), .second, .val (.long p2), .second, .val (.int p3), .val (.int lA), .val (.int ca), .val (.int cb), .val (.int lB), .val (.int (1 : Int32)), .val (.int da), .val (.int db), .val (.ref o18), .val (.ref o19), .val (.ref o20), .unset, .unset, .unset, .unset, .unset] [(.long (((p2).toUInt64 >>> ((34 : Int32) &&& 0x3f).toInt64.toUInt64).toInt64))]))
    refine Go.st (fun _ k => X.ldc2J hx hown (mvT hZ (hw _ (List.mem_of_getElem? (i := 0) rfl))) rfl (hb hby at_166) k) ?_
    show Go p e below _ (T.setTop (mkF m 169 #[.val (.long p0), .second, .val (.long p1), .second, .val (.long p2), .second, .val (.int p3), .val (.int lA), .val (.int ca), .val (.int cb), .val (.int lB), .val (.int (1 : Int32)), .val (.int da), .val (.int db), .val (.ref o18), .val (.ref o19), .val (.ref o20), .unset, .unset, .unset, .unset, .unset] [(.long (3 : Int64)), (.long (((p2).toUInt64 >>> ((34 : Int32) &&& 0x3f).toInt64.toUInt64).toInt64))]))
    refine Go.st (fun _ k => XS.land X.here hx rfl (hb hby at_169) rfl k) ?_
    show Go p e below _ (T.setTop (mkF m 170 #[.val (.long p0), .second, .val (.long p1), .second, .val (.long p2), .second, .val (.int p3), .val (.int lA), .val (.int ca), .val (.int cb), .val (.int lB), .val (.int (1 : Int32)), .val (.int da), .val (.int db), .val (.ref o18), .val (.ref o19), .val (.ref o20), .unset, .unset, .unset, .unset, .unset] [(.long ((((p2).toUInt64 >>> ((34 : Int32) &&& 0x3f).toInt64.toUInt64).toInt64) &&& (3 : Int64)))]))
    refine Go.st (fun _ k => XS.l2i X.here hx rfl (hb hby at_170) rfl k) ?_
    show Go p e below _ (T.setTop (mkF m 171 #[.val (.long p0), .second, .val (.long p1), .second, .val (.long p2), .second, .val (.int p3), .val (.int lA), .val (.int ca), .val (.int cb), .val (.int lB), .val (.int (1 : Int32)), .val (.int da), .val (.int db), .val (.ref o18), .val (.ref o19), .val (.ref o20), .unset, .unset, .unset, .unset, .unset] [(.int (((((p2).toUInt64 >>> ((34 : Int32) &&& 0x3f).toInt64.toUInt64).toInt64) &&& (3 : Int64)).toInt32))]))
    refine Go.st (fun _ k => XS.iconst X.here hx rfl (hb hby at_171) k) ?_
    show Go p e below _ (T.setTop (mkF m 172 #[.val (.long p0), .second, .val (.long p1), .second, .val (.long p2), .second, .val (.int p3), .val (.int lA), .val (.int ca), .val (.int cb), .val (.int lB), .val (.int (1 : Int32)), .val (.int da), .val (.int db), .val (.ref o18), .val (.ref o19), .val (.ref o20), .unset, .unset, .unset, .unset, .unset] [(.int (3 : Int32)), (.int (((((p2).toUInt64 >>> ((34 : Int32) &&& 0x3f).toInt64.toUInt64).toInt64) &&& (3 : Int64)).toInt32))]))
    refine Go.st (fun _ k => iremM X hx rfl (hb hby at_172) rfl (by decide) k) ?_
    show Go p e below _ (T.setTop (mkF m 173 #[.val (.long p0), .second, .val (.long p1), .second, .val (.long p2), .second, .val (.int p3), .val (.int lA), .val (.int ca), .val (.int cb), .val (.int lB), .val (.int (1 : Int32)), .val (.int da), .val (.int db), .val (.ref o18), .val (.ref o19), .val (.ref o20), .unset, .unset, .unset, .unset, .unset] [(.int ((((((p2).toUInt64 >>> ((34 : Int32) &&& 0x3f).toInt64.toUInt64).toInt64) &&& (3 : Int64)).toInt32) % (3 : Int32)))]))
    refine Go.st (fun _ k => XS.lload X.here hx rfl (hb hby at_173) rfl k) ?_
    show Go p e below _ (T.setTop (mkF m 175 #[.val (.long p0), .second, .val (.long p1), .second, .val (.long p2), .second, .val (.int p3), .val (.int lA), .val (.int ca), .val (.int cb), .val (.int lB), .val (.int (1 : Int32)), .val (.int da), .val (.int db), .val (.ref o18), .val (.ref o19), .val (.ref o20), .unset, .unset, .unset, .unset, .unset] [(.long p2), (.int ((((((p2).toUInt64 >>> ((34 : Int32) &&& 0x3f).toInt64.toUInt64).toInt64) &&& (3 : Int64)).toInt32) % (3 : Int32)))]))
    refine Go.st (fun _ k => XS.bipush X.here hx rfl (hb hby at_175) k) ?_
    show Go p e below _ (T.setTop (mkF m 177 #[.val (.long p0), .second, .val (.long p1), .second, .val (.long p2), .second, .val (.int p3), .val (.int lA), .val (.int ca), .val (.int cb), .val (.int lB), .val (.int (1 : Int32)), .val (.int da), .val (.int db), .val (.ref o18), .val (.ref o19), .val (.ref o20), .unset, .unset, .unset, .unset, .unset] [(.int (36 : Int32)), (.long p2), (.int ((((((p2).toUInt64 >>> ((34 : Int32) &&& 0x3f).toInt64.toUInt64).toInt64) &&& (3 : Int64)).toInt32) % (3 : Int32)))]))
    refine Go.st (fun _ k => XS.lushr X.here hx rfl (hb hby at_177) rfl k) ?_
    show Go p e below _ (T.setTop (mkF m 178 #[.val (.long p0), .second, .val (.long p1), .second, .val (.long p2), .second, .val (.int p3), .val (.int lA), .val (.int ca), .val (.int cb), .val (.int lB), .val (.int (1 : Int32)), .val (.int da), .val (.int db), .val (.ref o18), .val (.ref o19), .val (.ref o20), .unset, .unset, .unset, .unset, .unset] [(.long (((p2).toUInt64 >>> ((36 : Int32) &&& 0x3f).toInt64.toUInt64).toInt64)), (.int ((((((p2).toUInt64 >>> ((34 : Int32) &&& 0x3f).toInt64.toUInt64).toInt64) &&& (3 : Int64)).toInt32) % (3 : Int32)))]))
    refine Go.st (fun _ k => X.ldc2J hx hown (mvT hZ (hw _ (List.mem_of_getElem? (i := 1) rfl))) rfl (hb hby at_178) k) ?_
    show Go p e below _ (T.setTop (mkF m 181 #[.val (.long p0), .second, .val (.long p1), .second, .val (.long p2), .second, .val (.int p3), .val (.int lA), .val (.int ca), .val (.int cb), .val (.int lB), .val (.int (1 : Int32)), .val (.int da), .val (.int db), .val (.ref o18), .val (.ref o19), .val (.ref o20), .unset, .unset, .unset, .unset, .unset] [(.long (65535 : Int64)), (.long (((p2).toUInt64 >>> ((36 : Int32) &&& 0x3f).toInt64.toUInt64).toInt64)), (.int ((((((p2).toUInt64 >>> ((34 : Int32) &&& 0x3f).toInt64.toUInt64).toInt64) &&& (3 : Int64)).toInt32) % (3 : Int32)))]))
    refine Go.st (fun _ k => XS.land X.here hx rfl (hb hby at_181) rfl k) ?_
    show Go p e below _ (T.setTop (mkF m 182 #[.val (.long p0), .second, .val (.long p1), .second, .val (.long p2), .second, .val (.int p3), .val (.int lA), .val (.int ca), .val (.int cb), .val (.int lB), .val (.int (1 : Int32)), .val (.int da), .val (.int db), .val (.ref o18), .val (.ref o19), .val (.ref o20), .unset, .unset, .unset, .unset, .unset] [(.long ((((p2).toUInt64 >>> ((36 : Int32) &&& 0x3f).toInt64.toUInt64).toInt64) &&& (65535 : Int64))), (.int ((((((p2).toUInt64 >>> ((34 : Int32) &&& 0x3f).toInt64.toUInt64).toInt64) &&& (3 : Int64)).toInt32) % (3 : Int32)))]))
    refine Go.st (fun _ k => XS.l2i X.here hx rfl (hb hby at_182) rfl k) ?_
    show Go p e below _ (T.setTop (mkF m 183 #[.val (.long p0), .second, .val (.long p1), .second, .val (.long p2), .second, .val (.int p3), .val (.int lA), .val (.int ca), .val (.int cb), .val (.int lB), .val (.int (1 : Int32)), .val (.int da), .val (.int db), .val (.ref o18), .val (.ref o19), .val (.ref o20), .unset, .unset, .unset, .unset, .unset] [(.int (((((p2).toUInt64 >>> ((36 : Int32) &&& 0x3f).toInt64.toUInt64).toInt64) &&& (65535 : Int64)).toInt32)), (.int ((((((p2).toUInt64 >>> ((34 : Int32) &&& 0x3f).toInt64.toUInt64).toInt64) &&& (3 : Int64)).toInt32) % (3 : Int32)))]))
    refine Go.st (fun _ k => XS.lload X.here hx rfl (hb hby at_183) rfl k) ?_
    show Go p e below _ (T.setTop (mkF m 185 #[.val (.long p0), .second, .val (.long p1), .second, .val (.long p2), .second, .val (.int p3), .val (.int lA), .val (.int ca), .val (.int cb), .val (.int lB), .val (.int (1 : Int32)), .val (.int da), .val (.int db), .val (.ref o18), .val (.ref o19), .val (.ref o20), .unset, .unset, .unset, .unset, .unset] [(.long p2), (.int (((((p2).toUInt64 >>> ((36 : Int32) &&& 0x3f).toInt64.toUInt64).toInt64) &&& (65535 : Int64)).toInt32)), (.int ((((((p2).toUInt64 >>> ((34 : Int32) &&& 0x3f).toInt64.toUInt64).toInt64) &&& (3 : Int64)).toInt32) % (3 : Int32)))]))
    refine Go.st (fun _ k => XS.bipush X.here hx rfl (hb hby at_185) k) ?_
    show Go p e below _ (T.setTop (mkF m 187 #[.val (.long p0), .second, .val (.long p1), .second, .val (.long p2), .second, .val (.int p3), .val (.int lA), .val (.int ca), .val (.int cb), .val (.int lB), .val (.int (1 : Int32)), .val (.int da), .val (.int db), .val (.ref o18), .val (.ref o19), .val (.ref o20), .unset, .unset, .unset, .unset, .unset] [(.int (52 : Int32)), (.long p2), (.int (((((p2).toUInt64 >>> ((36 : Int32) &&& 0x3f).toInt64.toUInt64).toInt64) &&& (65535 : Int64)).toInt32)), (.int ((((((p2).toUInt64 >>> ((34 : Int32) &&& 0x3f).toInt64.toUInt64).toInt64) &&& (3 : Int64)).toInt32) % (3 : Int32)))]))
    refine Go.st (fun _ k => XS.lushr X.here hx rfl (hb hby at_187) rfl k) ?_
    show Go p e below _ (T.setTop (mkF m 188 #[.val (.long p0), .second, .val (.long p1), .second, .val (.long p2), .second, .val (.int p3), .val (.int lA), .val (.int ca), .val (.int cb), .val (.int lB), .val (.int (1 : Int32)), .val (.int da), .val (.int db), .val (.ref o18), .val (.ref o19), .val (.ref o20), .unset, .unset, .unset, .unset, .unset] [(.long (((p2).toUInt64 >>> ((52 : Int32) &&& 0x3f).toInt64.toUInt64).toInt64)), (.int (((((p2).toUInt64 >>> ((36 : Int32) &&& 0x3f).toInt64.toUInt64).toInt64) &&& (65535 : Int64)).toInt32)), (.int ((((((p2).toUInt64 >>> ((34 : Int32) &&& 0x3f).toInt64.toUInt64).toInt64) &&& (3 : Int64)).toInt32) % (3 : Int32)))]))
    refine Go.st (fun _ k => X.ldc2J hx hown (mvT hZ (hw _ (List.mem_of_getElem? (i := 39) rfl))) rfl (hb hby at_188) k) ?_
    show Go p e below _ (T.setTop (mkF m 191 #[.val (.long p0), .second, .val (.long p1), .second, .val (.long p2), .second, .val (.int p3), .val (.int lA), .val (.int ca), .val (.int cb), .val (.int lB), .val (.int (1 : Int32)), .val (.int da), .val (.int db), .val (.ref o18), .val (.ref o19), .val (.ref o20), .unset, .unset, .unset, .unset, .unset] [(.long (4095 : Int64)), (.long (((p2).toUInt64 >>> ((52 : Int32) &&& 0x3f).toInt64.toUInt64).toInt64)), (.int (((((p2).toUInt64 >>> ((36 : Int32) &&& 0x3f).toInt64.toUInt64).toInt64) &&& (65535 : Int64)).toInt32)), (.int ((((((p2).toUInt64 >>> ((34 : Int32) &&& 0x3f).toInt64.toUInt64).toInt64) &&& (3 : Int64)).toInt32) % (3 : Int32)))]))
    refine Go.st (fun _ k => XS.land X.here hx rfl (hb hby at_191) rfl k) ?_
    show Go p e below _ (T.setTop (mkF m 192 #[.val (.long p0), .second, .val (.long p1), .second, .val (.long p2), .second, .val (.int p3), .val (.int lA), .val (.int ca), .val (.int cb), .val (.int lB), .val (.int (1 : Int32)), .val (.int da), .val (.int db), .val (.ref o18), .val (.ref o19), .val (.ref o20), .unset, .unset, .unset, .unset, .unset] [(.long ((((p2).toUInt64 >>> ((52 : Int32) &&& 0x3f).toInt64.toUInt64).toInt64) &&& (4095 : Int64))), (.int (((((p2).toUInt64 >>> ((36 : Int32) &&& 0x3f).toInt64.toUInt64).toInt64) &&& (65535 : Int64)).toInt32)), (.int ((((((p2).toUInt64 >>> ((34 : Int32) &&& 0x3f).toInt64.toUInt64).toInt64) &&& (3 : Int64)).toInt32) % (3 : Int32)))]))
    refine Go.st (fun _ k => XS.l2i X.here hx rfl (hb hby at_192) rfl k) ?_
    show Go p e below _ (T.setTop (mkF m 193 #[.val (.long p0), .second, .val (.long p1), .second, .val (.long p2), .second, .val (.int p3), .val (.int lA), .val (.int ca), .val (.int cb), .val (.int lB), .val (.int (1 : Int32)), .val (.int da), .val (.int db), .val (.ref o18), .val (.ref o19), .val (.ref o20), .unset, .unset, .unset, .unset, .unset] [(.int (((((p2).toUInt64 >>> ((52 : Int32) &&& 0x3f).toInt64.toUInt64).toInt64) &&& (4095 : Int64)).toInt32)), (.int (((((p2).toUInt64 >>> ((36 : Int32) &&& 0x3f).toInt64.toUInt64).toInt64) &&& (65535 : Int64)).toInt32)), (.int ((((((p2).toUInt64 >>> ((34 : Int32) &&& 0x3f).toInt64.toUInt64).toInt64) &&& (3 : Int64)).toInt32) % (3 : Int32)))]))
    refine Go.callH (argsL := [(.int ((((((p2).toUInt64 >>> ((34 : Int32) &&& 0x3f).toInt64.toUInt64).toInt64) &&& (3 : Int64)).toInt32) % (3 : Int32))), (.int (((((p2).toUInt64 >>> ((36 : Int32) &&& 0x3f).toInt64.toUInt64).toInt64) &&& (65535 : Int64)).toInt32)), (.int (((((p2).toUInt64 >>> ((52 : Int32) &&& 0x3f).toInt64.toUInt64).toInt64) &&& (4095 : Int64)).toInt32))]) (rest := []) (W := 0) (ck := 6) (sk := 14) H X hx hZ hown (hml.trans rfl) hT (hw _ (List.mem_of_getElem? (i := 2) rfl)) (hw _ (List.mem_of_getElem? (i := 3) rfl)) (hw _ (List.mem_of_getElem? (i := 4) rfl)) (hw _ (List.mem_of_getElem? (i := 5) rfl)) (by decide) pd_10 rfl rfl (Nat.le_of_ble_eq_true rfl) (hb hby at_193) (backOfSH (W := 0) (met_str l Z a0 hw [] ((((((p2).toUInt64 >>> ((34 : Int32) &&& 0x3f).toInt64.toUInt64).toInt64) &&& (3 : Int64)).toInt32) % (3 : Int32)) (((((p2).toUInt64 >>> ((36 : Int32) &&& 0x3f).toInt64.toUInt64).toInt64) &&& (65535 : Int64)).toInt32) (((((p2).toUInt64 >>> ((52 : Int32) &&& 0x3f).toInt64.toUInt64).toInt64) &&& (4095 : Int64)).toInt32) z n0 h11 O Sc S16) hZ (hw _ (List.mem_of_getElem? (i := 5) rfl)) (hw _ (List.mem_of_getElem? (i := 4) rfl)) (by decide) (by decide) hEL H.2.1) (by decide) (by decide) ?_
    intro v T h12 L vm hT hQ hZ hown H Rc X
    obtain ⟨o21, rfl, N0, Ex0, S_o21⟩ := hQ
    have N := Fr.app N N0
    have KB := (Keep.refl h11 []).ext Ex0
    have O := O.keep KB all0
    have S_o18 := S_o18.ext (keepE KB)
    have S_o19 := S_o19.ext (keepE KB)
    have S_o20 := S_o20.ext (keepE KB)
    show Go p e below _ (T.setTop (mkF m 196 #[.val (.long p0), .second, .val (.long p1), .second, .val (.long p2), .second, .val (.int p3), .val (.int lA), .val (.int ca), .val (.int cb), .val (.int lB), .val (.int (1 : Int32)), .val (.int da), .val (.int db), .val (.ref o18), .val (.ref o19), .val (.ref o20), .unset, .unset, .unset, .unset, .unset] [(.ref o21)]))
    refine Go.st (fun _ k => XS.astore X.here hx rfl (hb hby at_196) rfl rfl (l' := #[.val (.long p0), .second, .val (.long p1), .second, .val (.long p2), .second, .val (.int p3), .val (.int lA), .val (.int ca), .val (.int cb), .val (.int lB), .val (.int (1 : Int32)), .val (.int da), .val (.int db), .val (.ref o18), .val (.ref o19), .val (.ref o20), .val (.ref o21), .unset, .unset, .unset, .unset]) rfl k) ?_
    show Go p e below _ (T.setTop (mkF m 198 #[.val (.long p0), .second, .val (.long p1), .second, .val (.long p2), .second, .val (.int p3), .val (.int lA), .val (.int ca), .val (.int cb), .val (.int lB), .val (.int (1 : Int32)), .val (.int da), .val (.int db), .val (.ref o18), .val (.ref o19), .val (.ref o20), .val (.ref o21), .unset, .unset, .unset, .unset] []))
    obtain ⟨T, h13, X, hT, Ex0, A_o22, D_o22, -, st⟩ := newO X hx hZ hown (hw _ (List.mem_of_getElem? (i := 59) rfl)) (hw _ (List.mem_of_getElem? (i := 60) rfl)) (hw _ (List.mem_of_getElem? (i := 61) rfl)) hT (g := (mkF m 198 #[.val (.long p0), .second, .val (.long p1), .second, .val (.long p2), .second, .val (.int p3), .val (.int lA), .val (.int ca), .val (.int cb), .val (.int lB), .val (.int (1 : Int32)), .val (.int da), .val (.int db), .val (.ref o18), .val (.ref o19), .val (.ref o20), .val (.ref o21), .unset, .unset, .unset, .unset] [])) rfl (hb hby at_198) (by decide) (by decide)
    obtain ⟨o22, g_o22⟩ : ∃ z, z = h12.size := ⟨_, rfl⟩
    rw [← g_o22] at A_o22 D_o22 st
    refine Go.st st ?_
    have ge_o22 : n0 ≤ o22 := Nat.le_trans (own_le (O)) (Nat.le_of_eq g_o22.symm)
    have gk_o22 : h12.size ≤ o22 := Nat.le_trans (Keep.refl h12 []).1 (Nat.le_of_eq g_o22.symm)
    have Sf_o22 := Safe.ext Ex0 H.2.1 (Safe.new (Nat.le_of_eq g_o22.symm))
    have H := H.ext Ex0
    have KB := (Keep.refl h12 []).ext Ex0
    have F_o22_text := D_o22 (Or.inr (hw _ (List.mem_of_getElem? (i := 67) rfl))) (ty := (.object "java/lang/String")) (by decide)
    have F_o22_key := D_o22 (Or.inr (hw _ (List.mem_of_getElem? (i := 69) rfl))) (ty := (.object "java/lang/String")) (by decide)
    show Go p e below _ (T.setTop (mkF m 201 #[.val (.long p0), .second, .val (.long p1), .second, .val (.long p2), .second, .val (.int p3), .val (.int lA), .val (.int ca), .val (.int cb), .val (.int lB), .val (.int (1 : Int32)), .val (.int da), .val (.int db), .val (.ref o18), .val (.ref o19), .val (.ref o20), .val (.ref o21), .unset, .unset, .unset, .unset] [(.ref o22)]))
    refine Go.st (fun _ k => XS.dup X.here hx rfl (hb hby at_201) rfl rfl k) ?_
    show Go p e below _ (T.setTop (mkF m 202 #[.val (.long p0), .second, .val (.long p1), .second, .val (.long p2), .second, .val (.int p3), .val (.int lA), .val (.int ca), .val (.int cb), .val (.int lB), .val (.int (1 : Int32)), .val (.int da), .val (.int db), .val (.ref o18), .val (.ref o19), .val (.ref o20), .val (.ref o21), .unset, .unset, .unset, .unset] [(.ref o22), (.ref o22)]))
    refine Go.st (fun _ k => XS.aload X.here hx rfl (hb hby at_202) rfl rfl k) ?_
    show Go p e below _ (T.setTop (mkF m 204 #[.val (.long p0), .second, .val (.long p1), .second, .val (.long p2), .second, .val (.int p3), .val (.int lA), .val (.int ca), .val (.int cb), .val (.int lB), .val (.int (1 : Int32)), .val (.int da), .val (.int db), .val (.ref o18), .val (.ref o19), .val (.ref o20), .val (.ref o21), .unset, .unset, .unset, .unset] [(.ref o20), (.ref o22), (.ref o22)]))
    refine Go.st (fun _ k => XS.aload X.here hx rfl (hb hby at_204) rfl rfl k) ?_
    show Go p e below _ (T.setTop (mkF m 206 #[.val (.long p0), .second, .val (.long p1), .second, .val (.long p2), .second, .val (.int p3), .val (.int lA), .val (.int ca), .val (.int cb), .val (.int lB), .val (.int (1 : Int32)), .val (.int da), .val (.int db), .val (.ref o18), .val (.ref o19), .val (.ref o20), .val (.ref o21), .unset, .unset, .unset, .unset] [(.ref o18), (.ref o20), (.ref o22), (.ref o22)]))
    refine Go.specP (argsL := [(.ref o20), (.ref o18)]) (rest := [(.ref o22)]) (W := 1) (ck := 0) (sk := 0) X hx hZ hown (hml.trans rfl) hT rfl (hw _ (List.mem_of_getElem? (i := 62) rfl)) (hw _ (List.mem_of_getElem? (i := 63) rfl)) (hw _ (List.mem_of_getElem? (i := 64) rfl)) (by decide) pd_11 rfl rfl (Nat.le_of_ble_eq_true rfl) (hb hby at_206) (backOf (W := 1) (met_jv l Z a0 hw [] n0 o22 o20 o18 h13 ge_o22 A_o22 F_o22_text F_o22_key) hZ (hw _ (List.mem_of_getElem? (i := 64) rfl)) (hw _ (List.mem_of_getElem? (i := 61) rfl)) (by decide) (by decide)) (by decide) (by decide) ?_
    intro v T h14 L hT hQ X
    obtain ⟨rfl, N0, K0, A_o22, F_o22⟩ := hQ
    have N := Fr.app N N0
    have H := H.keep K0 (sfS Sf_o22 sf0)
    have KB := (KB).trans K0 (allS (Or.inr gk_o22) all0)
    have O := O.keep KB all0
    have S_o18 := S_o18.ext (keepE KB)
    have S_o19 := S_o19.ext (keepE KB)
    have S_o20 := S_o20.ext (keepE KB)
    have S_o21 := S_o21.ext (keepE KB)
    show Go p e below _ (T.setTop (mkF m 209 #[.val (.long p0), .second, .val (.long p1), .second, .val (.long p2), .second, .val (.int p3), .val (.int lA), .val (.int ca), .val (.int cb), .val (.int lB), .val (.int (1 : Int32)), .val (.int da), .val (.int db), .val (.ref o18), .val (.ref o19), .val (.ref o20), .val (.ref o21), .unset, .unset, .unset, .unset] [(.ref o22)]))
    refine Go.st (fun _ k => XS.astore X.here hx rfl (hb hby at_209) rfl rfl (l' := #[.val (.long p0), .second, .val (.long p1), .second, .val (.long p2), .second, .val (.int p3), .val (.int lA), .val (.int ca), .val (.int cb), .val (.int lB), .val (.int (1 : Int32)), .val (.int da), .val (.int db), .val (.ref o18), .val (.ref o19), .val (.ref o20), .val (.ref o21), .val (.ref o22), .unset, .unset, .unset]) rfl k) ?_
    show Go p e below _ (T.setTop (mkF m 211 #[.val (.long p0), .second, .val (.long p1), .second, .val (.long p2), .second, .val (.int p3), .val (.int lA), .val (.int ca), .val (.int cb), .val (.int lB), .val (.int (1 : Int32)), .val (.int da), .val (.int db), .val (.ref o18), .val (.ref o19), .val (.ref o20), .val (.ref o21), .val (.ref o22), .unset, .unset, .unset] []))
    obtain ⟨T, h15, X, hT, Ex0, A_o23, D_o23, -, st⟩ := newO X hx hZ hown (hw _ (List.mem_of_getElem? (i := 59) rfl)) (hw _ (List.mem_of_getElem? (i := 60) rfl)) (hw _ (List.mem_of_getElem? (i := 61) rfl)) hT (g := (mkF m 211 #[.val (.long p0), .second, .val (.long p1), .second, .val (.long p2), .second, .val (.int p3), .val (.int lA), .val (.int ca), .val (.int cb), .val (.int lB), .val (.int (1 : Int32)), .val (.int da), .val (.int db), .val (.ref o18), .val (.ref o19), .val (.ref o20), .val (.ref o21), .val (.ref o22), .unset, .unset, .unset] [])) rfl (hb hby at_211) (by decide) (by decide)
    obtain ⟨o23, g_o23⟩ : ∃ z, z = h14.size := ⟨_, rfl⟩
    rw [← g_o23] at A_o23 D_o23 st
    refine Go.st st ?_
    have ge_o23 : n0 ≤ o23 := Nat.le_trans (own_le (O)) (Nat.le_of_eq g_o23.symm)
    have gk_o23 : h14.size ≤ o23 := Nat.le_trans (Keep.refl h14 []).1 (Nat.le_of_eq g_o23.symm)
    have Sf_o23 := Safe.ext Ex0 H.2.1 (Safe.new (Nat.le_of_eq g_o23.symm))
    have H := H.ext Ex0
    have KB := (Keep.refl h14 []).ext Ex0
    have F_o23_text := D_o23 (Or.inr (hw _ (List.mem_of_getElem? (i := 67) rfl))) (ty := (.object "java/lang/String")) (by decide)
    have F_o23_key := D_o23 (Or.inr (hw _ (List.mem_of_getElem? (i := 69) rfl))) (ty := (.object "java/lang/String")) (by decide)
    show Go p e below _ (T.setTop (mkF m 214 #[.val (.long p0), .second, .val (.long p1), .second, .val (.long p2), .second, .val (.int p3), .val (.int lA), .val (.int ca), .val (.int cb), .val (.int lB), .val (.int (1 : Int32)), .val (.int da), .val (.int db), .val (.ref o18), .val (.ref o19), .val (.ref o20), .val (.ref o21), .val (.ref o22), .unset, .unset, .unset] [(.ref o23)]))
    refine Go.st (fun _ k => XS.dup X.here hx rfl (hb hby at_214) rfl rfl k) ?_
    show Go p e below _ (T.setTop (mkF m 215 #[.val (.long p0), .second, .val (.long p1), .second, .val (.long p2), .second, .val (.int p3), .val (.int lA), .val (.int ca), .val (.int cb), .val (.int lB), .val (.int (1 : Int32)), .val (.int da), .val (.int db), .val (.ref o18), .val (.ref o19), .val (.ref o20), .val (.ref o21), .val (.ref o22), .unset, .unset, .unset] [(.ref o23), (.ref o23)]))
    refine Go.st (fun _ k => XS.aload X.here hx rfl (hb hby at_215) rfl rfl k) ?_
    show Go p e below _ (T.setTop (mkF m 217 #[.val (.long p0), .second, .val (.long p1), .second, .val (.long p2), .second, .val (.int p3), .val (.int lA), .val (.int ca), .val (.int cb), .val (.int lB), .val (.int (1 : Int32)), .val (.int da), .val (.int db), .val (.ref o18), .val (.ref o19), .val (.ref o20), .val (.ref o21), .val (.ref o22), .unset, .unset, .unset] [(.ref o21), (.ref o23), (.ref o23)]))
    refine Go.st (fun _ k => XS.aload X.here hx rfl (hb hby at_217) rfl rfl k) ?_
    show Go p e below _ (T.setTop (mkF m 219 #[.val (.long p0), .second, .val (.long p1), .second, .val (.long p2), .second, .val (.int p3), .val (.int lA), .val (.int ca), .val (.int cb), .val (.int lB), .val (.int (1 : Int32)), .val (.int da), .val (.int db), .val (.ref o18), .val (.ref o19), .val (.ref o20), .val (.ref o21), .val (.ref o22), .unset, .unset, .unset] [(.ref o19), (.ref o21), (.ref o23), (.ref o23)]))
    refine Go.specP (argsL := [(.ref o21), (.ref o19)]) (rest := [(.ref o23)]) (W := 1) (ck := 0) (sk := 0) X hx hZ hown (hml.trans rfl) hT rfl (hw _ (List.mem_of_getElem? (i := 62) rfl)) (hw _ (List.mem_of_getElem? (i := 63) rfl)) (hw _ (List.mem_of_getElem? (i := 64) rfl)) (by decide) pd_11 rfl rfl (Nat.le_of_ble_eq_true rfl) (hb hby at_219) (backOf (W := 1) (met_jv l Z a0 hw [] n0 o23 o21 o19 h15 ge_o23 A_o23 F_o23_text F_o23_key) hZ (hw _ (List.mem_of_getElem? (i := 64) rfl)) (hw _ (List.mem_of_getElem? (i := 61) rfl)) (by decide) (by decide)) (by decide) (by decide) ?_
    intro v T h16 L hT hQ X
    obtain ⟨rfl, N0, K0, A_o23, F_o23⟩ := hQ
    have N := Fr.app N N0
    have H := H.keep K0 (sfS Sf_o23 sf0)
    have KB := (KB).trans K0 (allS (Or.inr gk_o23) all0)
    have O := O.keep KB all0
    have S_o18 := S_o18.ext (keepE KB)
    have S_o19 := S_o19.ext (keepE KB)
    have S_o20 := S_o20.ext (keepE KB)
    have S_o21 := S_o21.ext (keepE KB)
    have A_o22 := A_o22.keep KB
    have F_o22 := F_o22.keep KB nin0
    show Go p e below _ (T.setTop (mkF m 222 #[.val (.long p0), .second, .val (.long p1), .second, .val (.long p2), .second, .val (.int p3), .val (.int lA), .val (.int ca), .val (.int cb), .val (.int lB), .val (.int (1 : Int32)), .val (.int da), .val (.int db), .val (.ref o18), .val (.ref o19), .val (.ref o20), .val (.ref o21), .val (.ref o22), .unset, .unset, .unset] [(.ref o23)]))
    refine Go.st (fun _ k => XS.astore X.here hx rfl (hb hby at_222) rfl rfl (l' := #[.val (.long p0), .second, .val (.long p1), .second, .val (.long p2), .second, .val (.int p3), .val (.int lA), .val (.int ca), .val (.int cb), .val (.int lB), .val (.int (1 : Int32)), .val (.int da), .val (.int db), .val (.ref o18), .val (.ref o19), .val (.ref o20), .val (.ref o21), .val (.ref o22), .val (.ref o23), .unset, .unset]) rfl k) ?_
    show Go p e below _ (T.setTop (mkF m 224 #[.val (.long p0), .second, .val (.long p1), .second, .val (.long p2), .second, .val (.int p3), .val (.int lA), .val (.int ca), .val (.int cb), .val (.int lB), .val (.int (1 : Int32)), .val (.int da), .val (.int db), .val (.ref o18), .val (.ref o19), .val (.ref o20), .val (.ref o21), .val (.ref o22), .val (.ref o23), .unset, .unset] []))
    refine Go.st (fun _ k => XS.iload X.here hx rfl (hb hby at_224) rfl k) ?_
    show Go p e below _ (T.setTop (mkF m 226 #[.val (.long p0), .second, .val (.long p1), .second, .val (.long p2), .second, .val (.int p3), .val (.int lA), .val (.int ca), .val (.int cb), .val (.int lB), .val (.int (1 : Int32)), .val (.int da), .val (.int db), .val (.ref o18), .val (.ref o19), .val (.ref o20), .val (.ref o21), .val (.ref o22), .val (.ref o23), .unset, .unset] [(.int p3)]))
    refine Go.st (fun _ k => XS.iconst X.here hx rfl (hb hby at_226) k) ?_
    show Go p e below _ (T.setTop (mkF m 227 #[.val (.long p0), .second, .val (.long p1), .second, .val (.long p2), .second, .val (.int p3), .val (.int lA), .val (.int ca), .val (.int cb), .val (.int lB), .val (.int (1 : Int32)), .val (.int da), .val (.int db), .val (.ref o18), .val (.ref o19), .val (.ref o20), .val (.ref o21), .val (.ref o22), .val (.ref o23), .unset, .unset] [(.int (1 : Int32)), (.int p3)]))
    refine Go.st (fun _ k => XS.iushr X.here hx rfl (hb hby at_227) rfl k) ?_
    show Go p e below _ (T.setTop (mkF m 228 #[.val (.long p0), .second, .val (.long p1), .second, .val (.long p2), .second, .val (.int p3), .val (.int lA), .val (.int ca), .val (.int cb), .val (.int lB), .val (.int (1 : Int32)), .val (.int da), .val (.int db), .val (.ref o18), .val (.ref o19), .val (.ref o20), .val (.ref o21), .val (.ref o22), .val (.ref o23), .unset, .unset] [(.int (((p3).toUInt32 >>> ((1 : Int32) &&& 31).toUInt32).toInt32))]))
    refine Go.st (fun _ k => XS.iconst X.here hx rfl (hb hby at_228) k) ?_
    show Go p e below _ (T.setTop (mkF m 229 #[.val (.long p0), .second, .val (.long p1), .second, .val (.long p2), .second, .val (.int p3), .val (.int lA), .val (.int ca), .val (.int cb), .val (.int lB), .val (.int (1 : Int32)), .val (.int da), .val (.int db), .val (.ref o18), .val (.ref o19), .val (.ref o20), .val (.ref o21), .val (.ref o22), .val (.ref o23), .unset, .unset] [(.int (3 : Int32)), (.int (((p3).toUInt32 >>> ((1 : Int32) &&& 31).toUInt32).toInt32))]))
    refine Go.st (fun _ k => XS.iand X.here hx rfl (hb hby at_229) rfl k) ?_
    show Go p e below _ (T.setTop (mkF m 230 #[.val (.long p0), .second, .val (.long p1), .second, .val (.long p2), .second, .val (.int p3), .val (.int lA), .val (.int ca), .val (.int cb), .val (.int lB), .val (.int (1 : Int32)), .val (.int da), .val (.int db), .val (.ref o18), .val (.ref o19), .val (.ref o20), .val (.ref o21), .val (.ref o22), .val (.ref o23), .unset, .unset] [(.int ((((p3).toUInt32 >>> ((1 : Int32) &&& 31).toUInt32).toInt32) &&& (3 : Int32)))]))
    obtain ⟨kd, hkd⟩ : ∃ z, z = ((((p3).toUInt32 >>> ((1 : Int32) &&& 31).toUInt32).toInt32) &&& (3 : Int32)) := ⟨_, rfl⟩
    rw [← hkd]
    show Go p e below _ (T.setTop (mkF m 230 #[.val (.long p0), .second, .val (.long p1), .second, .val (.long p2), .second, .val (.int p3), .val (.int lA), .val (.int ca), .val (.int cb), .val (.int lB), .val (.int (1 : Int32)), .val (.int da), .val (.int db), .val (.ref o18), .val (.ref o19), .val (.ref o20), .val (.ref o21), .val (.ref o22), .val (.ref o23), .unset, .unset] [(.int kd)]))
    refine Go.st (fun _ k => XS.istore X.here hx rfl (hb hby at_230) rfl (l' := #[.val (.long p0), .second, .val (.long p1), .second, .val (.long p2), .second, .val (.int p3), .val (.int lA), .val (.int ca), .val (.int cb), .val (.int lB), .val (.int (1 : Int32)), .val (.int da), .val (.int db), .val (.ref o18), .val (.ref o19), .val (.ref o20), .val (.ref o21), .val (.ref o22), .val (.ref o23), .val (.int kd), .unset]) rfl k) ?_
    show Go p e below _ (T.setTop (mkF m 232 #[.val (.long p0), .second, .val (.long p1), .second, .val (.long p2), .second, .val (.int p3), .val (.int lA), .val (.int ca), .val (.int cb), .val (.int lB), .val (.int (1 : Int32)), .val (.int da), .val (.int db), .val (.ref o18), .val (.ref o19), .val (.ref o20), .val (.ref o21), .val (.ref o22), .val (.ref o23), .val (.int kd), .unset] []))
    refine Go.st (fun _ k => XS.iload X.here hx rfl (hb hby at_232) rfl k) ?_
    show Go p e below _ (T.setTop (mkF m 234 #[.val (.long p0), .second, .val (.long p1), .second, .val (.long p2), .second, .val (.int p3), .val (.int lA), .val (.int ca), .val (.int cb), .val (.int lB), .val (.int (1 : Int32)), .val (.int da), .val (.int db), .val (.ref o18), .val (.ref o19), .val (.ref o20), .val (.ref o21), .val (.ref o22), .val (.ref o23), .val (.int kd), .unset] [(.int kd)]))
    by_cases hc24 : kd = (0 : Int32)
    · refine Go.st (fun _ k => XS.ifNo X.here hx rfl (hb hby at_234) rfl (Jvm.Free.XT.i0_ne_f hc24) k) ?_
      show Go p e below _ (T.setTop (mkF m 237 #[.val (.long p0), .second, .val (.long p1), .second, .val (.long p2), .second, .val (.int p3), .val (.int lA), .val (.int ca), .val (.int cb), .val (.int lB), .val (.int (1 : Int32)), .val (.int da), .val (.int db), .val (.ref o18), .val (.ref o19), .val (.ref o20), .val (.ref o21), .val (.ref o22), .val (.ref o23), .val (.int kd), .unset] []))
      refine Go.st (fun _ k => XS.iload X.here hx rfl (hb hby at_237) rfl k) ?_
      show Go p e below _ (T.setTop (mkF m 239 #[.val (.long p0), .second, .val (.long p1), .second, .val (.long p2), .second, .val (.int p3), .val (.int lA), .val (.int ca), .val (.int cb), .val (.int lB), .val (.int (1 : Int32)), .val (.int da), .val (.int db), .val (.ref o18), .val (.ref o19), .val (.ref o20), .val (.ref o21), .val (.ref o22), .val (.ref o23), .val (.int kd), .unset] [(.int lA)]))
      refine Go.st (fun _ k => XS.iload X.here hx rfl (hb hby at_239) rfl k) ?_
      show Go p e below _ (T.setTop (mkF m 241 #[.val (.long p0), .second, .val (.long p1), .second, .val (.long p2), .second, .val (.int p3), .val (.int lA), .val (.int ca), .val (.int cb), .val (.int lB), .val (.int (1 : Int32)), .val (.int da), .val (.int db), .val (.ref o18), .val (.ref o19), .val (.ref o20), .val (.ref o21), .val (.ref o22), .val (.ref o23), .val (.int kd), .unset] [(.int lB), (.int lA)]))
      by_cases hc25 : lA = lB
      · refine Go.st (fun _ k => XS.icmpNo X.here hx rfl (hb hby at_241) rfl (Jvm.Free.XT.ii_ne_f hc25) k) ?_
        show Go p e below _ (T.setTop (mkF m 244 #[.val (.long p0), .second, .val (.long p1), .second, .val (.long p2), .second, .val (.int p3), .val (.int lA), .val (.int ca), .val (.int cb), .val (.int lB), .val (.int (1 : Int32)), .val (.int da), .val (.int db), .val (.ref o18), .val (.ref o19), .val (.ref o20), .val (.ref o21), .val (.ref o22), .val (.ref o23), .val (.int kd), .unset] []))
        refine Go.st (fun _ k => XS.iload X.here hx rfl (hb hby at_244) rfl k) ?_
        show Go p e below _ (T.setTop (mkF m 246 #[.val (.long p0), .second, .val (.long p1), .second, .val (.long p2), .second, .val (.int p3), .val (.int lA), .val (.int ca), .val (.int cb), .val (.int lB), .val (.int (1 : Int32)), .val (.int da), .val (.int db), .val (.ref o18), .val (.ref o19), .val (.ref o20), .val (.ref o21), .val (.ref o22), .val (.ref o23), .val (.int kd), .unset] [(.int lA)]))
        refine Go.st (fun _ k => XS.iconst X.here hx rfl (hb hby at_246) k) ?_
        show Go p e below _ (T.setTop (mkF m 247 #[.val (.long p0), .second, .val (.long p1), .second, .val (.long p2), .second, .val (.int p3), .val (.int lA), .val (.int ca), .val (.int cb), .val (.int lB), .val (.int (1 : Int32)), .val (.int da), .val (.int db), .val (.ref o18), .val (.ref o19), .val (.ref o20), .val (.ref o21), .val (.ref o22), .val (.ref o23), .val (.int kd), .unset] [(.int (1 : Int32)), (.int lA)]))
        by_cases hc26 : lA < (1 : Int32)
        · refine Go.st (fun _ k => XS.icmpYes X.here hx rfl (pc0 := 247) (pc' := 257) rfl (hb hby at_247) rfl (Jvm.Free.XT.ii_lt_t hc26) (by decide) (by decide) k) ?_
          show Go p e below _ (T.setTop (mkF m 257 #[.val (.long p0), .second, .val (.long p1), .second, .val (.long p2), .second, .val (.int p3), .val (.int lA), .val (.int ca), .val (.int cb), .val (.int lB), .val (.int (1 : Int32)), .val (.int da), .val (.int db), .val (.ref o18), .val (.ref o19), .val (.ref o20), .val (.ref o21), .val (.ref o22), .val (.ref o23), .val (.int kd), .unset] []))
          refine Go.st (fun _ k => XS.iload X.here hx rfl (hb hby at_257) rfl k) ?_
          show Go p e below _ (T.setTop (mkF m 259 #[.val (.long p0), .second, .val (.long p1), .second, .val (.long p2), .second, .val (.int p3), .val (.int lA), .val (.int ca), .val (.int cb), .val (.int lB), .val (.int (1 : Int32)), .val (.int da), .val (.int db), .val (.ref o18), .val (.ref o19), .val (.ref o20), .val (.ref o21), .val (.ref o22), .val (.ref o23), .val (.int kd), .unset] [(.int lA)]))
          refine Go.st (fun _ k => XS.iconst X.here hx rfl (hb hby at_259) k) ?_
          show Go p e below _ (T.setTop (mkF m 260 #[.val (.long p0), .second, .val (.long p1), .second, .val (.long p2), .second, .val (.int p3), .val (.int lA), .val (.int ca), .val (.int cb), .val (.int lB), .val (.int (1 : Int32)), .val (.int da), .val (.int db), .val (.ref o18), .val (.ref o19), .val (.ref o20), .val (.ref o21), .val (.ref o22), .val (.ref o23), .val (.int kd), .unset] [(.int (2 : Int32)), (.int lA)]))
          by_cases hc27 : lA < (2 : Int32)
          · refine Go.st (fun _ k => XS.icmpYes X.here hx rfl (pc0 := 260) (pc' := 270) rfl (hb hby at_260) rfl (Jvm.Free.XT.ii_lt_t hc27) (by decide) (by decide) k) ?_
            show Go p e below _ (T.setTop (mkF m 270 #[.val (.long p0), .second, .val (.long p1), .second, .val (.long p2), .second, .val (.int p3), .val (.int lA), .val (.int ca), .val (.int cb), .val (.int lB), .val (.int (1 : Int32)), .val (.int da), .val (.int db), .val (.ref o18), .val (.ref o19), .val (.ref o20), .val (.ref o21), .val (.ref o22), .val (.ref o23), .val (.int kd), .unset] []))
            refine Go.st (fun _ k => XS.iconst X.here hx rfl (hb hby at_270) k) ?_
            show Go p e below _ (T.setTop (mkF m 271 #[.val (.long p0), .second, .val (.long p1), .second, .val (.long p2), .second, .val (.int p3), .val (.int lA), .val (.int ca), .val (.int cb), .val (.int lB), .val (.int (1 : Int32)), .val (.int da), .val (.int db), .val (.ref o18), .val (.ref o19), .val (.ref o20), .val (.ref o21), .val (.ref o22), .val (.ref o23), .val (.int kd), .unset] [(.int (1 : Int32))]))
            refine Go.st (fun _ k => XS.goto X.here hx rfl (pc0 := 271) (pc' := 275) rfl (hb hby at_271) (by decide) (by decide) k) ?_
            show Go p e below _ (T.setTop (mkF m 275 #[.val (.long p0), .second, .val (.long p1), .second, .val (.long p2), .second, .val (.int p3), .val (.int lA), .val (.int ca), .val (.int cb), .val (.int lB), .val (.int (1 : Int32)), .val (.int da), .val (.int db), .val (.ref o18), .val (.ref o19), .val (.ref o20), .val (.ref o21), .val (.ref o22), .val (.ref o23), .val (.int kd), .unset] [(.int (1 : Int32))]))
            refine Go.st (fun _ k => XS.istore X.here hx rfl (hb hby at_275) rfl (l' := #[.val (.long p0), .second, .val (.long p1), .second, .val (.long p2), .second, .val (.int p3), .val (.int lA), .val (.int ca), .val (.int cb), .val (.int lB), .val (.int (1 : Int32)), .val (.int da), .val (.int db), .val (.ref o18), .val (.ref o19), .val (.ref o20), .val (.ref o21), .val (.ref o22), .val (.ref o23), .val (.int kd), .val (.int (1 : Int32))]) rfl k) ?_
            show Go p e below _ (T.setTop (mkF m 277 #[.val (.long p0), .second, .val (.long p1), .second, .val (.long p2), .second, .val (.int p3), .val (.int lA), .val (.int ca), .val (.int cb), .val (.int lB), .val (.int (1 : Int32)), .val (.int da), .val (.int db), .val (.ref o18), .val (.ref o19), .val (.ref o20), .val (.ref o21), .val (.ref o22), .val (.ref o23), .val (.int kd), .val (.int (1 : Int32))] []))
            refine Go.st (fun _ k => XS.aload X.here hx rfl (hb hby at_277) rfl rfl k) ?_
            show Go p e below _ (T.setTop (mkF m 279 #[.val (.long p0), .second, .val (.long p1), .second, .val (.long p2), .second, .val (.int p3), .val (.int lA), .val (.int ca), .val (.int cb), .val (.int lB), .val (.int (1 : Int32)), .val (.int da), .val (.int db), .val (.ref o18), .val (.ref o19), .val (.ref o20), .val (.ref o21), .val (.ref o22), .val (.ref o23), .val (.int kd), .val (.int (1 : Int32))] [(.ref o22)]))
            refine Go.st (fun _ k => XS.aload X.here hx rfl (hb hby at_279) rfl rfl k) ?_
            show Go p e below _ (T.setTop (mkF m 281 #[.val (.long p0), .second, .val (.long p1), .second, .val (.long p2), .second, .val (.int p3), .val (.int lA), .val (.int ca), .val (.int cb), .val (.int lB), .val (.int (1 : Int32)), .val (.int da), .val (.int db), .val (.ref o18), .val (.ref o19), .val (.ref o20), .val (.ref o21), .val (.ref o22), .val (.ref o23), .val (.int kd), .val (.int (1 : Int32))] [(.ref o23), (.ref o22)]))
            refine Go.virtV (K := "com/example/orgweave/orgweave/core/JsonValue") (z := (⟨"com/example/orgweave/orgweave/core/JsonValue", "equals", "(Ljava/lang/Object;)Z"⟩ : MethodName)) (argsL := [(.ref o23)]) (rest := []) (W := 0) (w := (.int (f_jeq (strL lA ca cb) (strL lB da db)))) X hx hZ hown (hml.trans rfl) hT A_o22 (hw _ (List.mem_of_getElem? (i := 70) rfl)) (hw _ (List.mem_of_getElem? (i := 71) rfl)) (hw _ (List.mem_of_getElem? (i := 73) rfl)) (hw _ (List.mem_of_getElem? (i := 72) rfl)) (by decide) pd_9 rfl rfl (Nat.le_of_ble_eq_true rfl) (hb hby at_281) (notFace_of_selects (args := #[]) (mvT hZ (hw _ (List.mem_of_getElem? (i := 73) rfl)))) (backOf (W := 0) (met_jeq l Z a0 hw [] z n0 o22 o23 o18 o19 (strL lA ca cb) (strL lB da db) _ O Sc A_o23 F_o22 F_o23 S_o18 S_o19) hZ (hw _ (List.mem_of_getElem? (i := 74) rfl)) (hw _ (List.mem_of_getElem? (i := 61) rfl)) (by decide) (by decide)) (by decide) (by decide) ?_
            intro T hT X
            show Go p e below _ (T.setTop (mkF m 284 #[.val (.long p0), .second, .val (.long p1), .second, .val (.long p2), .second, .val (.int p3), .val (.int lA), .val (.int ca), .val (.int cb), .val (.int lB), .val (.int (1 : Int32)), .val (.int da), .val (.int db), .val (.ref o18), .val (.ref o19), .val (.ref o20), .val (.ref o21), .val (.ref o22), .val (.ref o23), .val (.int kd), .val (.int (1 : Int32))] [(.int (f_jeq (strL lA ca cb) (strL lB da db)))]))
            refine Go.st (fun _ k => XS.iload X.here hx rfl (hb hby at_284) rfl k) ?_
            show Go p e below _ (T.setTop (mkF m 286 #[.val (.long p0), .second, .val (.long p1), .second, .val (.long p2), .second, .val (.int p3), .val (.int lA), .val (.int ca), .val (.int cb), .val (.int lB), .val (.int (1 : Int32)), .val (.int da), .val (.int db), .val (.ref o18), .val (.ref o19), .val (.ref o20), .val (.ref o21), .val (.ref o22), .val (.ref o23), .val (.int kd), .val (.int (1 : Int32))] [(.int (1 : Int32)), (.int (f_jeq (strL lA ca cb) (strL lB da db)))]))
            refine Go.st (fun _ k => XS.icmpNo X.here hx rfl (hb hby at_286) rfl (Jvm.Free.XT.ii_ne_f (own_jeq1 (own_3 hlA) (own_3 hlB) (own_m16 hca) (own_m16 hcb) (own_mx hda (own_m16 hca)) (own_mx hdb (own_m16 hcb)) ⟨hc25, Or.inl hc26, Or.inl hc27⟩ : (f_jeq (strL lA ca cb) (strL lB da db)) = (1 : Int32))) k) ?_
            show Go p e below _ (T.setTop (mkF m 289 #[.val (.long p0), .second, .val (.long p1), .second, .val (.long p2), .second, .val (.int p3), .val (.int lA), .val (.int ca), .val (.int cb), .val (.int lB), .val (.int (1 : Int32)), .val (.int da), .val (.int db), .val (.ref o18), .val (.ref o19), .val (.ref o20), .val (.ref o21), .val (.ref o22), .val (.ref o23), .val (.int kd), .val (.int (1 : Int32))] []))
            refine Go.st (fun _ k => XS.aload X.here hx rfl (hb hby at_289) rfl rfl k) ?_
            show Go p e below _ (T.setTop (mkF m 291 #[.val (.long p0), .second, .val (.long p1), .second, .val (.long p2), .second, .val (.int p3), .val (.int lA), .val (.int ca), .val (.int cb), .val (.int lB), .val (.int (1 : Int32)), .val (.int da), .val (.int db), .val (.ref o18), .val (.ref o19), .val (.ref o20), .val (.ref o21), .val (.ref o22), .val (.ref o23), .val (.int kd), .val (.int (1 : Int32))] [(.ref o23)]))
            refine Go.st (fun _ k => XS.aload X.here hx rfl (hb hby at_291) rfl rfl k) ?_
            show Go p e below _ (T.setTop (mkF m 293 #[.val (.long p0), .second, .val (.long p1), .second, .val (.long p2), .second, .val (.int p3), .val (.int lA), .val (.int ca), .val (.int cb), .val (.int lB), .val (.int (1 : Int32)), .val (.int da), .val (.int db), .val (.ref o18), .val (.ref o19), .val (.ref o20), .val (.ref o21), .val (.ref o22), .val (.ref o23), .val (.int kd), .val (.int (1 : Int32))] [(.ref o22), (.ref o23)]))
            refine Go.virtV (K := "com/example/orgweave/orgweave/core/JsonValue") (z := (⟨"com/example/orgweave/orgweave/core/JsonValue", "equals", "(Ljava/lang/Object;)Z"⟩ : MethodName)) (argsL := [(.ref o22)]) (rest := []) (W := 0) (w := (.int (f_jeq (strL lB da db) (strL lA ca cb)))) X hx hZ hown (hml.trans rfl) hT A_o23 (hw _ (List.mem_of_getElem? (i := 70) rfl)) (hw _ (List.mem_of_getElem? (i := 71) rfl)) (hw _ (List.mem_of_getElem? (i := 73) rfl)) (hw _ (List.mem_of_getElem? (i := 72) rfl)) (by decide) pd_9 rfl rfl (Nat.le_of_ble_eq_true rfl) (hb hby at_293) (notFace_of_selects (args := #[]) (mvT hZ (hw _ (List.mem_of_getElem? (i := 73) rfl)))) (backOf (W := 0) (met_jeq l Z a0 hw [] z n0 o23 o22 o19 o18 (strL lB da db) (strL lA ca cb) _ O Sc A_o22 F_o23 F_o22 S_o19 S_o18) hZ (hw _ (List.mem_of_getElem? (i := 74) rfl)) (hw _ (List.mem_of_getElem? (i := 61) rfl)) (by decide) (by decide)) (by decide) (by decide) ?_
            intro T hT X
            show Go p e below _ (T.setTop (mkF m 296 #[.val (.long p0), .second, .val (.long p1), .second, .val (.long p2), .second, .val (.int p3), .val (.int lA), .val (.int ca), .val (.int cb), .val (.int lB), .val (.int (1 : Int32)), .val (.int da), .val (.int db), .val (.ref o18), .val (.ref o19), .val (.ref o20), .val (.ref o21), .val (.ref o22), .val (.ref o23), .val (.int kd), .val (.int (1 : Int32))] [(.int (f_jeq (strL lB da db) (strL lA ca cb)))]))
            refine Go.st (fun _ k => XS.iload X.here hx rfl (hb hby at_296) rfl k) ?_
            show Go p e below _ (T.setTop (mkF m 298 #[.val (.long p0), .second, .val (.long p1), .second, .val (.long p2), .second, .val (.int p3), .val (.int lA), .val (.int ca), .val (.int cb), .val (.int lB), .val (.int (1 : Int32)), .val (.int da), .val (.int db), .val (.ref o18), .val (.ref o19), .val (.ref o20), .val (.ref o21), .val (.ref o22), .val (.ref o23), .val (.int kd), .val (.int (1 : Int32))] [(.int (1 : Int32)), (.int (f_jeq (strL lB da db) (strL lA ca cb)))]))
            refine Go.st (fun _ k => XS.icmpNo X.here hx rfl (hb hby at_298) rfl (Jvm.Free.XT.ii_ne_f (own_jeq1S (own_3 hlA) (own_3 hlB) (own_m16 hca) (own_m16 hcb) (own_mx hda (own_m16 hca)) (own_mx hdb (own_m16 hcb)) ⟨hc25, Or.inl hc26, Or.inl hc27⟩ : (f_jeq (strL lB da db) (strL lA ca cb)) = (1 : Int32))) k) ?_
            show Go p e below _ (T.setTop (mkF m 301 #[.val (.long p0), .second, .val (.long p1), .second, .val (.long p2), .second, .val (.int p3), .val (.int lA), .val (.int ca), .val (.int cb), .val (.int lB), .val (.int (1 : Int32)), .val (.int da), .val (.int db), .val (.ref o18), .val (.ref o19), .val (.ref o20), .val (.ref o21), .val (.ref o22), .val (.ref o23), .val (.int kd), .val (.int (1 : Int32))] []))
            refine Go.st (fun _ k => XS.iconst X.here hx rfl (hb hby at_301) k) ?_
            show Go p e below _ (T.setTop (mkF m 302 #[.val (.long p0), .second, .val (.long p1), .second, .val (.long p2), .second, .val (.int p3), .val (.int lA), .val (.int ca), .val (.int cb), .val (.int lB), .val (.int (1 : Int32)), .val (.int da), .val (.int db), .val (.ref o18), .val (.ref o19), .val (.ref o20), .val (.ref o21), .val (.ref o22), .val (.ref o23), .val (.int kd), .val (.int (1 : Int32))] [(.int (1 : Int32))]))
            refine Go.st (fun _ k => XS.goto X.here hx rfl (pc0 := 302) (pc' := 306) rfl (hb hby at_302) (by decide) (by decide) k) ?_
            show Go p e below _ (T.setTop (mkF m 306 #[.val (.long p0), .second, .val (.long p1), .second, .val (.long p2), .second, .val (.int p3), .val (.int lA), .val (.int ca), .val (.int cb), .val (.int lB), .val (.int (1 : Int32)), .val (.int da), .val (.int db), .val (.ref o18), .val (.ref o19), .val (.ref o20), .val (.ref o21), .val (.ref o22), .val (.ref o23), .val (.int kd), .val (.int (1 : Int32))] [(.int (1 : Int32))]))
            refine Go.retH hEL H hZ X hx hlk hT hret (by decide) (riI (by simp)) (hb hby at_306) (by decide) (by decide) ?_
            exact ⟨rfl, N⟩
          · refine Go.st (fun _ k => XS.icmpNo X.here hx rfl (hb hby at_260) rfl (Jvm.Free.XT.ii_lt_f hc27) k) ?_
            show Go p e below _ (T.setTop (mkF m 263 #[.val (.long p0), .second, .val (.long p1), .second, .val (.long p2), .second, .val (.int p3), .val (.int lA), .val (.int ca), .val (.int cb), .val (.int lB), .val (.int (1 : Int32)), .val (.int da), .val (.int db), .val (.ref o18), .val (.ref o19), .val (.ref o20), .val (.ref o21), .val (.ref o22), .val (.ref o23), .val (.int kd), .unset] []))
            refine Go.st (fun _ k => XS.iload X.here hx rfl (hb hby at_263) rfl k) ?_
            show Go p e below _ (T.setTop (mkF m 265 #[.val (.long p0), .second, .val (.long p1), .second, .val (.long p2), .second, .val (.int p3), .val (.int lA), .val (.int ca), .val (.int cb), .val (.int lB), .val (.int (1 : Int32)), .val (.int da), .val (.int db), .val (.ref o18), .val (.ref o19), .val (.ref o20), .val (.ref o21), .val (.ref o22), .val (.ref o23), .val (.int kd), .unset] [(.int cb)]))
            refine Go.st (fun _ k => XS.iload X.here hx rfl (hb hby at_265) rfl k) ?_
            show Go p e below _ (T.setTop (mkF m 267 #[.val (.long p0), .second, .val (.long p1), .second, .val (.long p2), .second, .val (.int p3), .val (.int lA), .val (.int ca), .val (.int cb), .val (.int lB), .val (.int (1 : Int32)), .val (.int da), .val (.int db), .val (.ref o18), .val (.ref o19), .val (.ref o20), .val (.ref o21), .val (.ref o22), .val (.ref o23), .val (.int kd), .unset] [(.int db), (.int cb)]))
            by_cases hc28 : cb = db
            · refine Go.st (fun _ k => XS.icmpNo X.here hx rfl (hb hby at_267) rfl (Jvm.Free.XT.ii_ne_f hc28) k) ?_
              show Go p e below _ (T.setTop (mkF m 270 #[.val (.long p0), .second, .val (.long p1), .second, .val (.long p2), .second, .val (.int p3), .val (.int lA), .val (.int ca), .val (.int cb), .val (.int lB), .val (.int (1 : Int32)), .val (.int da), .val (.int db), .val (.ref o18), .val (.ref o19), .val (.ref o20), .val (.ref o21), .val (.ref o22), .val (.ref o23), .val (.int kd), .unset] []))
              refine Go.st (fun _ k => XS.iconst X.here hx rfl (hb hby at_270) k) ?_
              show Go p e below _ (T.setTop (mkF m 271 #[.val (.long p0), .second, .val (.long p1), .second, .val (.long p2), .second, .val (.int p3), .val (.int lA), .val (.int ca), .val (.int cb), .val (.int lB), .val (.int (1 : Int32)), .val (.int da), .val (.int db), .val (.ref o18), .val (.ref o19), .val (.ref o20), .val (.ref o21), .val (.ref o22), .val (.ref o23), .val (.int kd), .unset] [(.int (1 : Int32))]))
              refine Go.st (fun _ k => XS.goto X.here hx rfl (pc0 := 271) (pc' := 275) rfl (hb hby at_271) (by decide) (by decide) k) ?_
              show Go p e below _ (T.setTop (mkF m 275 #[.val (.long p0), .second, .val (.long p1), .second, .val (.long p2), .second, .val (.int p3), .val (.int lA), .val (.int ca), .val (.int cb), .val (.int lB), .val (.int (1 : Int32)), .val (.int da), .val (.int db), .val (.ref o18), .val (.ref o19), .val (.ref o20), .val (.ref o21), .val (.ref o22), .val (.ref o23), .val (.int kd), .unset] [(.int (1 : Int32))]))
              refine Go.st (fun _ k => XS.istore X.here hx rfl (hb hby at_275) rfl (l' := #[.val (.long p0), .second, .val (.long p1), .second, .val (.long p2), .second, .val (.int p3), .val (.int lA), .val (.int ca), .val (.int cb), .val (.int lB), .val (.int (1 : Int32)), .val (.int da), .val (.int db), .val (.ref o18), .val (.ref o19), .val (.ref o20), .val (.ref o21), .val (.ref o22), .val (.ref o23), .val (.int kd), .val (.int (1 : Int32))]) rfl k) ?_
              show Go p e below _ (T.setTop (mkF m 277 #[.val (.long p0), .second, .val (.long p1), .second, .val (.long p2), .second, .val (.int p3), .val (.int lA), .val (.int ca), .val (.int cb), .val (.int lB), .val (.int (1 : Int32)), .val (.int da), .val (.int db), .val (.ref o18), .val (.ref o19), .val (.ref o20), .val (.ref o21), .val (.ref o22), .val (.ref o23), .val (.int kd), .val (.int (1 : Int32))] []))
              refine Go.st (fun _ k => XS.aload X.here hx rfl (hb hby at_277) rfl rfl k) ?_
              show Go p e below _ (T.setTop (mkF m 279 #[.val (.long p0), .second, .val (.long p1), .second, .val (.long p2), .second, .val (.int p3), .val (.int lA), .val (.int ca), .val (.int cb), .val (.int lB), .val (.int (1 : Int32)), .val (.int da), .val (.int db), .val (.ref o18), .val (.ref o19), .val (.ref o20), .val (.ref o21), .val (.ref o22), .val (.ref o23), .val (.int kd), .val (.int (1 : Int32))] [(.ref o22)]))
              refine Go.st (fun _ k => XS.aload X.here hx rfl (hb hby at_279) rfl rfl k) ?_
              show Go p e below _ (T.setTop (mkF m 281 #[.val (.long p0), .second, .val (.long p1), .second, .val (.long p2), .second, .val (.int p3), .val (.int lA), .val (.int ca), .val (.int cb), .val (.int lB), .val (.int (1 : Int32)), .val (.int da), .val (.int db), .val (.ref o18), .val (.ref o19), .val (.ref o20), .val (.ref o21), .val (.ref o22), .val (.ref o23), .val (.int kd), .val (.int (1 : Int32))] [(.ref o23), (.ref o22)]))
              refine Go.virtV (K := "com/example/orgweave/orgweave/core/JsonValue") (z := (⟨"com/example/orgweave/orgweave/core/JsonValue", "equals", "(Ljava/lang/Object;)Z"⟩ : MethodName)) (argsL := [(.ref o23)]) (rest := []) (W := 0) (w := (.int (f_jeq (strL lA ca cb) (strL lB da db)))) X hx hZ hown (hml.trans rfl) hT A_o22 (hw _ (List.mem_of_getElem? (i := 70) rfl)) (hw _ (List.mem_of_getElem? (i := 71) rfl)) (hw _ (List.mem_of_getElem? (i := 73) rfl)) (hw _ (List.mem_of_getElem? (i := 72) rfl)) (by decide) pd_9 rfl rfl (Nat.le_of_ble_eq_true rfl) (hb hby at_281) (notFace_of_selects (args := #[]) (mvT hZ (hw _ (List.mem_of_getElem? (i := 73) rfl)))) (backOf (W := 0) (met_jeq l Z a0 hw [] z n0 o22 o23 o18 o19 (strL lA ca cb) (strL lB da db) _ O Sc A_o23 F_o22 F_o23 S_o18 S_o19) hZ (hw _ (List.mem_of_getElem? (i := 74) rfl)) (hw _ (List.mem_of_getElem? (i := 61) rfl)) (by decide) (by decide)) (by decide) (by decide) ?_
              intro T hT X
              show Go p e below _ (T.setTop (mkF m 284 #[.val (.long p0), .second, .val (.long p1), .second, .val (.long p2), .second, .val (.int p3), .val (.int lA), .val (.int ca), .val (.int cb), .val (.int lB), .val (.int (1 : Int32)), .val (.int da), .val (.int db), .val (.ref o18), .val (.ref o19), .val (.ref o20), .val (.ref o21), .val (.ref o22), .val (.ref o23), .val (.int kd), .val (.int (1 : Int32))] [(.int (f_jeq (strL lA ca cb) (strL lB da db)))]))
              refine Go.st (fun _ k => XS.iload X.here hx rfl (hb hby at_284) rfl k) ?_
              show Go p e below _ (T.setTop (mkF m 286 #[.val (.long p0), .second, .val (.long p1), .second, .val (.long p2), .second, .val (.int p3), .val (.int lA), .val (.int ca), .val (.int cb), .val (.int lB), .val (.int (1 : Int32)), .val (.int da), .val (.int db), .val (.ref o18), .val (.ref o19), .val (.ref o20), .val (.ref o21), .val (.ref o22), .val (.ref o23), .val (.int kd), .val (.int (1 : Int32))] [(.int (1 : Int32)), (.int (f_jeq (strL lA ca cb) (strL lB da db)))]))
              refine Go.st (fun _ k => XS.icmpNo X.here hx rfl (hb hby at_286) rfl (Jvm.Free.XT.ii_ne_f (own_jeq1 (own_3 hlA) (own_3 hlB) (own_m16 hca) (own_m16 hcb) (own_mx hda (own_m16 hca)) (own_mx hdb (own_m16 hcb)) ⟨hc25, Or.inl hc26, Or.inr hc28⟩ : (f_jeq (strL lA ca cb) (strL lB da db)) = (1 : Int32))) k) ?_
              show Go p e below _ (T.setTop (mkF m 289 #[.val (.long p0), .second, .val (.long p1), .second, .val (.long p2), .second, .val (.int p3), .val (.int lA), .val (.int ca), .val (.int cb), .val (.int lB), .val (.int (1 : Int32)), .val (.int da), .val (.int db), .val (.ref o18), .val (.ref o19), .val (.ref o20), .val (.ref o21), .val (.ref o22), .val (.ref o23), .val (.int kd), .val (.int (1 : Int32))] []))
              refine Go.st (fun _ k => XS.aload X.here hx rfl (hb hby at_289) rfl rfl k) ?_
              show Go p e below _ (T.setTop (mkF m 291 #[.val (.long p0), .second, .val (.long p1), .second, .val (.long p2), .second, .val (.int p3), .val (.int lA), .val (.int ca), .val (.int cb), .val (.int lB), .val (.int (1 : Int32)), .val (.int da), .val (.int db), .val (.ref o18), .val (.ref o19), .val (.ref o20), .val (.ref o21), .val (.ref o22), .val (.ref o23), .val (.int kd), .val (.int (1 : Int32))] [(.ref o23)]))
              refine Go.st (fun _ k => XS.aload X.here hx rfl (hb hby at_291) rfl rfl k) ?_
              show Go p e below _ (T.setTop (mkF m 293 #[.val (.long p0), .second, .val (.long p1), .second, .val (.long p2), .second, .val (.int p3), .val (.int lA), .val (.int ca), .val (.int cb), .val (.int lB), .val (.int (1 : Int32)), .val (.int da), .val (.int db), .val (.ref o18), .val (.ref o19), .val (.ref o20), .val (.ref o21), .val (.ref o22), .val (.ref o23), .val (.int kd), .val (.int (1 : Int32))] [(.ref o22), (.ref o23)]))
              refine Go.virtV (K := "com/example/orgweave/orgweave/core/JsonValue") (z := (⟨"com/example/orgweave/orgweave/core/JsonValue", "equals", "(Ljava/lang/Object;)Z"⟩ : MethodName)) (argsL := [(.ref o22)]) (rest := []) (W := 0) (w := (.int (f_jeq (strL lB da db) (strL lA ca cb)))) X hx hZ hown (hml.trans rfl) hT A_o23 (hw _ (List.mem_of_getElem? (i := 70) rfl)) (hw _ (List.mem_of_getElem? (i := 71) rfl)) (hw _ (List.mem_of_getElem? (i := 73) rfl)) (hw _ (List.mem_of_getElem? (i := 72) rfl)) (by decide) pd_9 rfl rfl (Nat.le_of_ble_eq_true rfl) (hb hby at_293) (notFace_of_selects (args := #[]) (mvT hZ (hw _ (List.mem_of_getElem? (i := 73) rfl)))) (backOf (W := 0) (met_jeq l Z a0 hw [] z n0 o23 o22 o19 o18 (strL lB da db) (strL lA ca cb) _ O Sc A_o22 F_o23 F_o22 S_o19 S_o18) hZ (hw _ (List.mem_of_getElem? (i := 74) rfl)) (hw _ (List.mem_of_getElem? (i := 61) rfl)) (by decide) (by decide)) (by decide) (by decide) ?_
              intro T hT X
              show Go p e below _ (T.setTop (mkF m 296 #[.val (.long p0), .second, .val (.long p1), .second, .val (.long p2), .second, .val (.int p3), .val (.int lA), .val (.int ca), .val (.int cb), .val (.int lB), .val (.int (1 : Int32)), .val (.int da), .val (.int db), .val (.ref o18), .val (.ref o19), .val (.ref o20), .val (.ref o21), .val (.ref o22), .val (.ref o23), .val (.int kd), .val (.int (1 : Int32))] [(.int (f_jeq (strL lB da db) (strL lA ca cb)))]))
              refine Go.st (fun _ k => XS.iload X.here hx rfl (hb hby at_296) rfl k) ?_
              show Go p e below _ (T.setTop (mkF m 298 #[.val (.long p0), .second, .val (.long p1), .second, .val (.long p2), .second, .val (.int p3), .val (.int lA), .val (.int ca), .val (.int cb), .val (.int lB), .val (.int (1 : Int32)), .val (.int da), .val (.int db), .val (.ref o18), .val (.ref o19), .val (.ref o20), .val (.ref o21), .val (.ref o22), .val (.ref o23), .val (.int kd), .val (.int (1 : Int32))] [(.int (1 : Int32)), (.int (f_jeq (strL lB da db) (strL lA ca cb)))]))
              refine Go.st (fun _ k => XS.icmpNo X.here hx rfl (hb hby at_298) rfl (Jvm.Free.XT.ii_ne_f (own_jeq1S (own_3 hlA) (own_3 hlB) (own_m16 hca) (own_m16 hcb) (own_mx hda (own_m16 hca)) (own_mx hdb (own_m16 hcb)) ⟨hc25, Or.inl hc26, Or.inr hc28⟩ : (f_jeq (strL lB da db) (strL lA ca cb)) = (1 : Int32))) k) ?_
              show Go p e below _ (T.setTop (mkF m 301 #[.val (.long p0), .second, .val (.long p1), .second, .val (.long p2), .second, .val (.int p3), .val (.int lA), .val (.int ca), .val (.int cb), .val (.int lB), .val (.int (1 : Int32)), .val (.int da), .val (.int db), .val (.ref o18), .val (.ref o19), .val (.ref o20), .val (.ref o21), .val (.ref o22), .val (.ref o23), .val (.int kd), .val (.int (1 : Int32))] []))
              refine Go.st (fun _ k => XS.iconst X.here hx rfl (hb hby at_301) k) ?_
              show Go p e below _ (T.setTop (mkF m 302 #[.val (.long p0), .second, .val (.long p1), .second, .val (.long p2), .second, .val (.int p3), .val (.int lA), .val (.int ca), .val (.int cb), .val (.int lB), .val (.int (1 : Int32)), .val (.int da), .val (.int db), .val (.ref o18), .val (.ref o19), .val (.ref o20), .val (.ref o21), .val (.ref o22), .val (.ref o23), .val (.int kd), .val (.int (1 : Int32))] [(.int (1 : Int32))]))
              refine Go.st (fun _ k => XS.goto X.here hx rfl (pc0 := 302) (pc' := 306) rfl (hb hby at_302) (by decide) (by decide) k) ?_
              show Go p e below _ (T.setTop (mkF m 306 #[.val (.long p0), .second, .val (.long p1), .second, .val (.long p2), .second, .val (.int p3), .val (.int lA), .val (.int ca), .val (.int cb), .val (.int lB), .val (.int (1 : Int32)), .val (.int da), .val (.int db), .val (.ref o18), .val (.ref o19), .val (.ref o20), .val (.ref o21), .val (.ref o22), .val (.ref o23), .val (.int kd), .val (.int (1 : Int32))] [(.int (1 : Int32))]))
              refine Go.retH hEL H hZ X hx hlk hT hret (by decide) (riI (by simp)) (hb hby at_306) (by decide) (by decide) ?_
              exact ⟨rfl, N⟩
            · refine Go.st (fun _ k => XS.icmpYes X.here hx rfl (pc0 := 267) (pc' := 274) rfl (hb hby at_267) rfl (Jvm.Free.XT.ii_ne_t hc28) (by decide) (by decide) k) ?_
              show Go p e below _ (T.setTop (mkF m 274 #[.val (.long p0), .second, .val (.long p1), .second, .val (.long p2), .second, .val (.int p3), .val (.int lA), .val (.int ca), .val (.int cb), .val (.int lB), .val (.int (1 : Int32)), .val (.int da), .val (.int db), .val (.ref o18), .val (.ref o19), .val (.ref o20), .val (.ref o21), .val (.ref o22), .val (.ref o23), .val (.int kd), .unset] []))
              refine Go.st (fun _ k => XS.iconst X.here hx rfl (hb hby at_274) k) ?_
              show Go p e below _ (T.setTop (mkF m 275 #[.val (.long p0), .second, .val (.long p1), .second, .val (.long p2), .second, .val (.int p3), .val (.int lA), .val (.int ca), .val (.int cb), .val (.int lB), .val (.int (1 : Int32)), .val (.int da), .val (.int db), .val (.ref o18), .val (.ref o19), .val (.ref o20), .val (.ref o21), .val (.ref o22), .val (.ref o23), .val (.int kd), .unset] [(.int (0 : Int32))]))
              refine Go.st (fun _ k => XS.istore X.here hx rfl (hb hby at_275) rfl (l' := #[.val (.long p0), .second, .val (.long p1), .second, .val (.long p2), .second, .val (.int p3), .val (.int lA), .val (.int ca), .val (.int cb), .val (.int lB), .val (.int (1 : Int32)), .val (.int da), .val (.int db), .val (.ref o18), .val (.ref o19), .val (.ref o20), .val (.ref o21), .val (.ref o22), .val (.ref o23), .val (.int kd), .val (.int (0 : Int32))]) rfl k) ?_
              show Go p e below _ (T.setTop (mkF m 277 #[.val (.long p0), .second, .val (.long p1), .second, .val (.long p2), .second, .val (.int p3), .val (.int lA), .val (.int ca), .val (.int cb), .val (.int lB), .val (.int (1 : Int32)), .val (.int da), .val (.int db), .val (.ref o18), .val (.ref o19), .val (.ref o20), .val (.ref o21), .val (.ref o22), .val (.ref o23), .val (.int kd), .val (.int (0 : Int32))] []))
              refine Go.st (fun _ k => XS.aload X.here hx rfl (hb hby at_277) rfl rfl k) ?_
              show Go p e below _ (T.setTop (mkF m 279 #[.val (.long p0), .second, .val (.long p1), .second, .val (.long p2), .second, .val (.int p3), .val (.int lA), .val (.int ca), .val (.int cb), .val (.int lB), .val (.int (1 : Int32)), .val (.int da), .val (.int db), .val (.ref o18), .val (.ref o19), .val (.ref o20), .val (.ref o21), .val (.ref o22), .val (.ref o23), .val (.int kd), .val (.int (0 : Int32))] [(.ref o22)]))
              refine Go.st (fun _ k => XS.aload X.here hx rfl (hb hby at_279) rfl rfl k) ?_
              show Go p e below _ (T.setTop (mkF m 281 #[.val (.long p0), .second, .val (.long p1), .second, .val (.long p2), .second, .val (.int p3), .val (.int lA), .val (.int ca), .val (.int cb), .val (.int lB), .val (.int (1 : Int32)), .val (.int da), .val (.int db), .val (.ref o18), .val (.ref o19), .val (.ref o20), .val (.ref o21), .val (.ref o22), .val (.ref o23), .val (.int kd), .val (.int (0 : Int32))] [(.ref o23), (.ref o22)]))
              refine Go.virtV (K := "com/example/orgweave/orgweave/core/JsonValue") (z := (⟨"com/example/orgweave/orgweave/core/JsonValue", "equals", "(Ljava/lang/Object;)Z"⟩ : MethodName)) (argsL := [(.ref o23)]) (rest := []) (W := 0) (w := (.int (f_jeq (strL lA ca cb) (strL lB da db)))) X hx hZ hown (hml.trans rfl) hT A_o22 (hw _ (List.mem_of_getElem? (i := 70) rfl)) (hw _ (List.mem_of_getElem? (i := 71) rfl)) (hw _ (List.mem_of_getElem? (i := 73) rfl)) (hw _ (List.mem_of_getElem? (i := 72) rfl)) (by decide) pd_9 rfl rfl (Nat.le_of_ble_eq_true rfl) (hb hby at_281) (notFace_of_selects (args := #[]) (mvT hZ (hw _ (List.mem_of_getElem? (i := 73) rfl)))) (backOf (W := 0) (met_jeq l Z a0 hw [] z n0 o22 o23 o18 o19 (strL lA ca cb) (strL lB da db) _ O Sc A_o23 F_o22 F_o23 S_o18 S_o19) hZ (hw _ (List.mem_of_getElem? (i := 74) rfl)) (hw _ (List.mem_of_getElem? (i := 61) rfl)) (by decide) (by decide)) (by decide) (by decide) ?_
              intro T hT X
              show Go p e below _ (T.setTop (mkF m 284 #[.val (.long p0), .second, .val (.long p1), .second, .val (.long p2), .second, .val (.int p3), .val (.int lA), .val (.int ca), .val (.int cb), .val (.int lB), .val (.int (1 : Int32)), .val (.int da), .val (.int db), .val (.ref o18), .val (.ref o19), .val (.ref o20), .val (.ref o21), .val (.ref o22), .val (.ref o23), .val (.int kd), .val (.int (0 : Int32))] [(.int (f_jeq (strL lA ca cb) (strL lB da db)))]))
              refine Go.st (fun _ k => XS.iload X.here hx rfl (hb hby at_284) rfl k) ?_
              show Go p e below _ (T.setTop (mkF m 286 #[.val (.long p0), .second, .val (.long p1), .second, .val (.long p2), .second, .val (.int p3), .val (.int lA), .val (.int ca), .val (.int cb), .val (.int lB), .val (.int (1 : Int32)), .val (.int da), .val (.int db), .val (.ref o18), .val (.ref o19), .val (.ref o20), .val (.ref o21), .val (.ref o22), .val (.ref o23), .val (.int kd), .val (.int (0 : Int32))] [(.int (0 : Int32)), (.int (f_jeq (strL lA ca cb) (strL lB da db)))]))
              refine Go.st (fun _ k => XS.icmpNo X.here hx rfl (hb hby at_286) rfl (Jvm.Free.XT.ii_ne_f (own_jeq0 (own_3 hlA) (own_3 hlB) (own_m16 hca) (own_m16 hcb) (own_mx hda (own_m16 hca)) (own_mx hdb (own_m16 hcb)) (fun q => q.2.2.elim hc27 hc28) : (f_jeq (strL lA ca cb) (strL lB da db)) = (0 : Int32))) k) ?_
              show Go p e below _ (T.setTop (mkF m 289 #[.val (.long p0), .second, .val (.long p1), .second, .val (.long p2), .second, .val (.int p3), .val (.int lA), .val (.int ca), .val (.int cb), .val (.int lB), .val (.int (1 : Int32)), .val (.int da), .val (.int db), .val (.ref o18), .val (.ref o19), .val (.ref o20), .val (.ref o21), .val (.ref o22), .val (.ref o23), .val (.int kd), .val (.int (0 : Int32))] []))
              refine Go.st (fun _ k => XS.aload X.here hx rfl (hb hby at_289) rfl rfl k) ?_
              show Go p e below _ (T.setTop (mkF m 291 #[.val (.long p0), .second, .val (.long p1), .second, .val (.long p2), .second, .val (.int p3), .val (.int lA), .val (.int ca), .val (.int cb), .val (.int lB), .val (.int (1 : Int32)), .val (.int da), .val (.int db), .val (.ref o18), .val (.ref o19), .val (.ref o20), .val (.ref o21), .val (.ref o22), .val (.ref o23), .val (.int kd), .val (.int (0 : Int32))] [(.ref o23)]))
              refine Go.st (fun _ k => XS.aload X.here hx rfl (hb hby at_291) rfl rfl k) ?_
              show Go p e below _ (T.setTop (mkF m 293 #[.val (.long p0), .second, .val (.long p1), .second, .val (.long p2), .second, .val (.int p3), .val (.int lA), .val (.int ca), .val (.int cb), .val (.int lB), .val (.int (1 : Int32)), .val (.int da), .val (.int db), .val (.ref o18), .val (.ref o19), .val (.ref o20), .val (.ref o21), .val (.ref o22), .val (.ref o23), .val (.int kd), .val (.int (0 : Int32))] [(.ref o22), (.ref o23)]))
              refine Go.virtV (K := "com/example/orgweave/orgweave/core/JsonValue") (z := (⟨"com/example/orgweave/orgweave/core/JsonValue", "equals", "(Ljava/lang/Object;)Z"⟩ : MethodName)) (argsL := [(.ref o22)]) (rest := []) (W := 0) (w := (.int (f_jeq (strL lB da db) (strL lA ca cb)))) X hx hZ hown (hml.trans rfl) hT A_o23 (hw _ (List.mem_of_getElem? (i := 70) rfl)) (hw _ (List.mem_of_getElem? (i := 71) rfl)) (hw _ (List.mem_of_getElem? (i := 73) rfl)) (hw _ (List.mem_of_getElem? (i := 72) rfl)) (by decide) pd_9 rfl rfl (Nat.le_of_ble_eq_true rfl) (hb hby at_293) (notFace_of_selects (args := #[]) (mvT hZ (hw _ (List.mem_of_getElem? (i := 73) rfl)))) (backOf (W := 0) (met_jeq l Z a0 hw [] z n0 o23 o22 o19 o18 (strL lB da db) (strL lA ca cb) _ O Sc A_o22 F_o23 F_o22 S_o19 S_o18) hZ (hw _ (List.mem_of_getElem? (i := 74) rfl)) (hw _ (List.mem_of_getElem? (i := 61) rfl)) (by decide) (by decide)) (by decide) (by decide) ?_
              intro T hT X
              show Go p e below _ (T.setTop (mkF m 296 #[.val (.long p0), .second, .val (.long p1), .second, .val (.long p2), .second, .val (.int p3), .val (.int lA), .val (.int ca), .val (.int cb), .val (.int lB), .val (.int (1 : Int32)), .val (.int da), .val (.int db), .val (.ref o18), .val (.ref o19), .val (.ref o20), .val (.ref o21), .val (.ref o22), .val (.ref o23), .val (.int kd), .val (.int (0 : Int32))] [(.int (f_jeq (strL lB da db) (strL lA ca cb)))]))
              refine Go.st (fun _ k => XS.iload X.here hx rfl (hb hby at_296) rfl k) ?_
              show Go p e below _ (T.setTop (mkF m 298 #[.val (.long p0), .second, .val (.long p1), .second, .val (.long p2), .second, .val (.int p3), .val (.int lA), .val (.int ca), .val (.int cb), .val (.int lB), .val (.int (1 : Int32)), .val (.int da), .val (.int db), .val (.ref o18), .val (.ref o19), .val (.ref o20), .val (.ref o21), .val (.ref o22), .val (.ref o23), .val (.int kd), .val (.int (0 : Int32))] [(.int (0 : Int32)), (.int (f_jeq (strL lB da db) (strL lA ca cb)))]))
              refine Go.st (fun _ k => XS.icmpNo X.here hx rfl (hb hby at_298) rfl (Jvm.Free.XT.ii_ne_f (own_jeq0S (own_3 hlA) (own_3 hlB) (own_m16 hca) (own_m16 hcb) (own_mx hda (own_m16 hca)) (own_mx hdb (own_m16 hcb)) (fun q => q.2.2.elim hc27 hc28) : (f_jeq (strL lB da db) (strL lA ca cb)) = (0 : Int32))) k) ?_
              show Go p e below _ (T.setTop (mkF m 301 #[.val (.long p0), .second, .val (.long p1), .second, .val (.long p2), .second, .val (.int p3), .val (.int lA), .val (.int ca), .val (.int cb), .val (.int lB), .val (.int (1 : Int32)), .val (.int da), .val (.int db), .val (.ref o18), .val (.ref o19), .val (.ref o20), .val (.ref o21), .val (.ref o22), .val (.ref o23), .val (.int kd), .val (.int (0 : Int32))] []))
              refine Go.st (fun _ k => XS.iconst X.here hx rfl (hb hby at_301) k) ?_
              show Go p e below _ (T.setTop (mkF m 302 #[.val (.long p0), .second, .val (.long p1), .second, .val (.long p2), .second, .val (.int p3), .val (.int lA), .val (.int ca), .val (.int cb), .val (.int lB), .val (.int (1 : Int32)), .val (.int da), .val (.int db), .val (.ref o18), .val (.ref o19), .val (.ref o20), .val (.ref o21), .val (.ref o22), .val (.ref o23), .val (.int kd), .val (.int (0 : Int32))] [(.int (1 : Int32))]))
              refine Go.st (fun _ k => XS.goto X.here hx rfl (pc0 := 302) (pc' := 306) rfl (hb hby at_302) (by decide) (by decide) k) ?_
              show Go p e below _ (T.setTop (mkF m 306 #[.val (.long p0), .second, .val (.long p1), .second, .val (.long p2), .second, .val (.int p3), .val (.int lA), .val (.int ca), .val (.int cb), .val (.int lB), .val (.int (1 : Int32)), .val (.int da), .val (.int db), .val (.ref o18), .val (.ref o19), .val (.ref o20), .val (.ref o21), .val (.ref o22), .val (.ref o23), .val (.int kd), .val (.int (0 : Int32))] [(.int (1 : Int32))]))
              refine Go.retH hEL H hZ X hx hlk hT hret (by decide) (riI (by simp)) (hb hby at_306) (by decide) (by decide) ?_
              exact ⟨rfl, N⟩
        · refine Go.st (fun _ k => XS.icmpNo X.here hx rfl (hb hby at_247) rfl (Jvm.Free.XT.ii_lt_f hc26) k) ?_
          show Go p e below _ (T.setTop (mkF m 250 #[.val (.long p0), .second, .val (.long p1), .second, .val (.long p2), .second, .val (.int p3), .val (.int lA), .val (.int ca), .val (.int cb), .val (.int lB), .val (.int (1 : Int32)), .val (.int da), .val (.int db), .val (.ref o18), .val (.ref o19), .val (.ref o20), .val (.ref o21), .val (.ref o22), .val (.ref o23), .val (.int kd), .unset] []))
          refine Go.st (fun _ k => XS.iload X.here hx rfl (hb hby at_250) rfl k) ?_
          show Go p e below _ (T.setTop (mkF m 252 #[.val (.long p0), .second, .val (.long p1), .second, .val (.long p2), .second, .val (.int p3), .val (.int lA), .val (.int ca), .val (.int cb), .val (.int lB), .val (.int (1 : Int32)), .val (.int da), .val (.int db), .val (.ref o18), .val (.ref o19), .val (.ref o20), .val (.ref o21), .val (.ref o22), .val (.ref o23), .val (.int kd), .unset] [(.int ca)]))
          refine Go.st (fun _ k => XS.iload X.here hx rfl (hb hby at_252) rfl k) ?_
          show Go p e below _ (T.setTop (mkF m 254 #[.val (.long p0), .second, .val (.long p1), .second, .val (.long p2), .second, .val (.int p3), .val (.int lA), .val (.int ca), .val (.int cb), .val (.int lB), .val (.int (1 : Int32)), .val (.int da), .val (.int db), .val (.ref o18), .val (.ref o19), .val (.ref o20), .val (.ref o21), .val (.ref o22), .val (.ref o23), .val (.int kd), .unset] [(.int da), (.int ca)]))
          by_cases hc29 : ca = da
          · refine Go.st (fun _ k => XS.icmpNo X.here hx rfl (hb hby at_254) rfl (Jvm.Free.XT.ii_ne_f hc29) k) ?_
            show Go p e below _ (T.setTop (mkF m 257 #[.val (.long p0), .second, .val (.long p1), .second, .val (.long p2), .second, .val (.int p3), .val (.int lA), .val (.int ca), .val (.int cb), .val (.int lB), .val (.int (1 : Int32)), .val (.int da), .val (.int db), .val (.ref o18), .val (.ref o19), .val (.ref o20), .val (.ref o21), .val (.ref o22), .val (.ref o23), .val (.int kd), .unset] []))
            refine Go.st (fun _ k => XS.iload X.here hx rfl (hb hby at_257) rfl k) ?_
            show Go p e below _ (T.setTop (mkF m 259 #[.val (.long p0), .second, .val (.long p1), .second, .val (.long p2), .second, .val (.int p3), .val (.int lA), .val (.int ca), .val (.int cb), .val (.int lB), .val (.int (1 : Int32)), .val (.int da), .val (.int db), .val (.ref o18), .val (.ref o19), .val (.ref o20), .val (.ref o21), .val (.ref o22), .val (.ref o23), .val (.int kd), .unset] [(.int lA)]))
            refine Go.st (fun _ k => XS.iconst X.here hx rfl (hb hby at_259) k) ?_
            show Go p e below _ (T.setTop (mkF m 260 #[.val (.long p0), .second, .val (.long p1), .second, .val (.long p2), .second, .val (.int p3), .val (.int lA), .val (.int ca), .val (.int cb), .val (.int lB), .val (.int (1 : Int32)), .val (.int da), .val (.int db), .val (.ref o18), .val (.ref o19), .val (.ref o20), .val (.ref o21), .val (.ref o22), .val (.ref o23), .val (.int kd), .unset] [(.int (2 : Int32)), (.int lA)]))
            by_cases hc30 : lA < (2 : Int32)
            · refine Go.st (fun _ k => XS.icmpYes X.here hx rfl (pc0 := 260) (pc' := 270) rfl (hb hby at_260) rfl (Jvm.Free.XT.ii_lt_t hc30) (by decide) (by decide) k) ?_
              show Go p e below _ (T.setTop (mkF m 270 #[.val (.long p0), .second, .val (.long p1), .second, .val (.long p2), .second, .val (.int p3), .val (.int lA), .val (.int ca), .val (.int cb), .val (.int lB), .val (.int (1 : Int32)), .val (.int da), .val (.int db), .val (.ref o18), .val (.ref o19), .val (.ref o20), .val (.ref o21), .val (.ref o22), .val (.ref o23), .val (.int kd), .unset] []))
              refine Go.st (fun _ k => XS.iconst X.here hx rfl (hb hby at_270) k) ?_
              show Go p e below _ (T.setTop (mkF m 271 #[.val (.long p0), .second, .val (.long p1), .second, .val (.long p2), .second, .val (.int p3), .val (.int lA), .val (.int ca), .val (.int cb), .val (.int lB), .val (.int (1 : Int32)), .val (.int da), .val (.int db), .val (.ref o18), .val (.ref o19), .val (.ref o20), .val (.ref o21), .val (.ref o22), .val (.ref o23), .val (.int kd), .unset] [(.int (1 : Int32))]))
              refine Go.st (fun _ k => XS.goto X.here hx rfl (pc0 := 271) (pc' := 275) rfl (hb hby at_271) (by decide) (by decide) k) ?_
              show Go p e below _ (T.setTop (mkF m 275 #[.val (.long p0), .second, .val (.long p1), .second, .val (.long p2), .second, .val (.int p3), .val (.int lA), .val (.int ca), .val (.int cb), .val (.int lB), .val (.int (1 : Int32)), .val (.int da), .val (.int db), .val (.ref o18), .val (.ref o19), .val (.ref o20), .val (.ref o21), .val (.ref o22), .val (.ref o23), .val (.int kd), .unset] [(.int (1 : Int32))]))
              refine Go.st (fun _ k => XS.istore X.here hx rfl (hb hby at_275) rfl (l' := #[.val (.long p0), .second, .val (.long p1), .second, .val (.long p2), .second, .val (.int p3), .val (.int lA), .val (.int ca), .val (.int cb), .val (.int lB), .val (.int (1 : Int32)), .val (.int da), .val (.int db), .val (.ref o18), .val (.ref o19), .val (.ref o20), .val (.ref o21), .val (.ref o22), .val (.ref o23), .val (.int kd), .val (.int (1 : Int32))]) rfl k) ?_
              show Go p e below _ (T.setTop (mkF m 277 #[.val (.long p0), .second, .val (.long p1), .second, .val (.long p2), .second, .val (.int p3), .val (.int lA), .val (.int ca), .val (.int cb), .val (.int lB), .val (.int (1 : Int32)), .val (.int da), .val (.int db), .val (.ref o18), .val (.ref o19), .val (.ref o20), .val (.ref o21), .val (.ref o22), .val (.ref o23), .val (.int kd), .val (.int (1 : Int32))] []))
              refine Go.st (fun _ k => XS.aload X.here hx rfl (hb hby at_277) rfl rfl k) ?_
              show Go p e below _ (T.setTop (mkF m 279 #[.val (.long p0), .second, .val (.long p1), .second, .val (.long p2), .second, .val (.int p3), .val (.int lA), .val (.int ca), .val (.int cb), .val (.int lB), .val (.int (1 : Int32)), .val (.int da), .val (.int db), .val (.ref o18), .val (.ref o19), .val (.ref o20), .val (.ref o21), .val (.ref o22), .val (.ref o23), .val (.int kd), .val (.int (1 : Int32))] [(.ref o22)]))
              refine Go.st (fun _ k => XS.aload X.here hx rfl (hb hby at_279) rfl rfl k) ?_
              show Go p e below _ (T.setTop (mkF m 281 #[.val (.long p0), .second, .val (.long p1), .second, .val (.long p2), .second, .val (.int p3), .val (.int lA), .val (.int ca), .val (.int cb), .val (.int lB), .val (.int (1 : Int32)), .val (.int da), .val (.int db), .val (.ref o18), .val (.ref o19), .val (.ref o20), .val (.ref o21), .val (.ref o22), .val (.ref o23), .val (.int kd), .val (.int (1 : Int32))] [(.ref o23), (.ref o22)]))
              refine Go.virtV (K := "com/example/orgweave/orgweave/core/JsonValue") (z := (⟨"com/example/orgweave/orgweave/core/JsonValue", "equals", "(Ljava/lang/Object;)Z"⟩ : MethodName)) (argsL := [(.ref o23)]) (rest := []) (W := 0) (w := (.int (f_jeq (strL lA ca cb) (strL lB da db)))) X hx hZ hown (hml.trans rfl) hT A_o22 (hw _ (List.mem_of_getElem? (i := 70) rfl)) (hw _ (List.mem_of_getElem? (i := 71) rfl)) (hw _ (List.mem_of_getElem? (i := 73) rfl)) (hw _ (List.mem_of_getElem? (i := 72) rfl)) (by decide) pd_9 rfl rfl (Nat.le_of_ble_eq_true rfl) (hb hby at_281) (notFace_of_selects (args := #[]) (mvT hZ (hw _ (List.mem_of_getElem? (i := 73) rfl)))) (backOf (W := 0) (met_jeq l Z a0 hw [] z n0 o22 o23 o18 o19 (strL lA ca cb) (strL lB da db) _ O Sc A_o23 F_o22 F_o23 S_o18 S_o19) hZ (hw _ (List.mem_of_getElem? (i := 74) rfl)) (hw _ (List.mem_of_getElem? (i := 61) rfl)) (by decide) (by decide)) (by decide) (by decide) ?_
              intro T hT X
              show Go p e below _ (T.setTop (mkF m 284 #[.val (.long p0), .second, .val (.long p1), .second, .val (.long p2), .second, .val (.int p3), .val (.int lA), .val (.int ca), .val (.int cb), .val (.int lB), .val (.int (1 : Int32)), .val (.int da), .val (.int db), .val (.ref o18), .val (.ref o19), .val (.ref o20), .val (.ref o21), .val (.ref o22), .val (.ref o23), .val (.int kd), .val (.int (1 : Int32))] [(.int (f_jeq (strL lA ca cb) (strL lB da db)))]))
              refine Go.st (fun _ k => XS.iload X.here hx rfl (hb hby at_284) rfl k) ?_
              show Go p e below _ (T.setTop (mkF m 286 #[.val (.long p0), .second, .val (.long p1), .second, .val (.long p2), .second, .val (.int p3), .val (.int lA), .val (.int ca), .val (.int cb), .val (.int lB), .val (.int (1 : Int32)), .val (.int da), .val (.int db), .val (.ref o18), .val (.ref o19), .val (.ref o20), .val (.ref o21), .val (.ref o22), .val (.ref o23), .val (.int kd), .val (.int (1 : Int32))] [(.int (1 : Int32)), (.int (f_jeq (strL lA ca cb) (strL lB da db)))]))
              refine Go.st (fun _ k => XS.icmpNo X.here hx rfl (hb hby at_286) rfl (Jvm.Free.XT.ii_ne_f (own_jeq1 (own_3 hlA) (own_3 hlB) (own_m16 hca) (own_m16 hcb) (own_mx hda (own_m16 hca)) (own_mx hdb (own_m16 hcb)) ⟨hc25, Or.inr hc29, Or.inl hc30⟩ : (f_jeq (strL lA ca cb) (strL lB da db)) = (1 : Int32))) k) ?_
              show Go p e below _ (T.setTop (mkF m 289 #[.val (.long p0), .second, .val (.long p1), .second, .val (.long p2), .second, .val (.int p3), .val (.int lA), .val (.int ca), .val (.int cb), .val (.int lB), .val (.int (1 : Int32)), .val (.int da), .val (.int db), .val (.ref o18), .val (.ref o19), .val (.ref o20), .val (.ref o21), .val (.ref o22), .val (.ref o23), .val (.int kd), .val (.int (1 : Int32))] []))
              refine Go.st (fun _ k => XS.aload X.here hx rfl (hb hby at_289) rfl rfl k) ?_
              show Go p e below _ (T.setTop (mkF m 291 #[.val (.long p0), .second, .val (.long p1), .second, .val (.long p2), .second, .val (.int p3), .val (.int lA), .val (.int ca), .val (.int cb), .val (.int lB), .val (.int (1 : Int32)), .val (.int da), .val (.int db), .val (.ref o18), .val (.ref o19), .val (.ref o20), .val (.ref o21), .val (.ref o22), .val (.ref o23), .val (.int kd), .val (.int (1 : Int32))] [(.ref o23)]))
              refine Go.st (fun _ k => XS.aload X.here hx rfl (hb hby at_291) rfl rfl k) ?_
              show Go p e below _ (T.setTop (mkF m 293 #[.val (.long p0), .second, .val (.long p1), .second, .val (.long p2), .second, .val (.int p3), .val (.int lA), .val (.int ca), .val (.int cb), .val (.int lB), .val (.int (1 : Int32)), .val (.int da), .val (.int db), .val (.ref o18), .val (.ref o19), .val (.ref o20), .val (.ref o21), .val (.ref o22), .val (.ref o23), .val (.int kd), .val (.int (1 : Int32))] [(.ref o22), (.ref o23)]))
              refine Go.virtV (K := "com/example/orgweave/orgweave/core/JsonValue") (z := (⟨"com/example/orgweave/orgweave/core/JsonValue", "equals", "(Ljava/lang/Object;)Z"⟩ : MethodName)) (argsL := [(.ref o22)]) (rest := []) (W := 0) (w := (.int (f_jeq (strL lB da db) (strL lA ca cb)))) X hx hZ hown (hml.trans rfl) hT A_o23 (hw _ (List.mem_of_getElem? (i := 70) rfl)) (hw _ (List.mem_of_getElem? (i := 71) rfl)) (hw _ (List.mem_of_getElem? (i := 73) rfl)) (hw _ (List.mem_of_getElem? (i := 72) rfl)) (by decide) pd_9 rfl rfl (Nat.le_of_ble_eq_true rfl) (hb hby at_293) (notFace_of_selects (args := #[]) (mvT hZ (hw _ (List.mem_of_getElem? (i := 73) rfl)))) (backOf (W := 0) (met_jeq l Z a0 hw [] z n0 o23 o22 o19 o18 (strL lB da db) (strL lA ca cb) _ O Sc A_o22 F_o23 F_o22 S_o19 S_o18) hZ (hw _ (List.mem_of_getElem? (i := 74) rfl)) (hw _ (List.mem_of_getElem? (i := 61) rfl)) (by decide) (by decide)) (by decide) (by decide) ?_
              intro T hT X
              show Go p e below _ (T.setTop (mkF m 296 #[.val (.long p0), .second, .val (.long p1), .second, .val (.long p2), .second, .val (.int p3), .val (.int lA), .val (.int ca), .val (.int cb), .val (.int lB), .val (.int (1 : Int32)), .val (.int da), .val (.int db), .val (.ref o18), .val (.ref o19), .val (.ref o20), .val (.ref o21), .val (.ref o22), .val (.ref o23), .val (.int kd), .val (.int (1 : Int32))] [(.int (f_jeq (strL lB da db) (strL lA ca cb)))]))
              refine Go.st (fun _ k => XS.iload X.here hx rfl (hb hby at_296) rfl k) ?_
              show Go p e below _ (T.setTop (mkF m 298 #[.val (.long p0), .second, .val (.long p1), .second, .val (.long p2), .second, .val (.int p3), .val (.int lA), .val (.int ca), .val (.int cb), .val (.int lB), .val (.int (1 : Int32)), .val (.int da), .val (.int db), .val (.ref o18), .val (.ref o19), .val (.ref o20), .val (.ref o21), .val (.ref o22), .val (.ref o23), .val (.int kd), .val (.int (1 : Int32))] [(.int (1 : Int32)), (.int (f_jeq (strL lB da db) (strL lA ca cb)))]))
              refine Go.st (fun _ k => XS.icmpNo X.here hx rfl (hb hby at_298) rfl (Jvm.Free.XT.ii_ne_f (own_jeq1S (own_3 hlA) (own_3 hlB) (own_m16 hca) (own_m16 hcb) (own_mx hda (own_m16 hca)) (own_mx hdb (own_m16 hcb)) ⟨hc25, Or.inr hc29, Or.inl hc30⟩ : (f_jeq (strL lB da db) (strL lA ca cb)) = (1 : Int32))) k) ?_
              show Go p e below _ (T.setTop (mkF m 301 #[.val (.long p0), .second, .val (.long p1), .second, .val (.long p2), .second, .val (.int p3), .val (.int lA), .val (.int ca), .val (.int cb), .val (.int lB), .val (.int (1 : Int32)), .val (.int da), .val (.int db), .val (.ref o18), .val (.ref o19), .val (.ref o20), .val (.ref o21), .val (.ref o22), .val (.ref o23), .val (.int kd), .val (.int (1 : Int32))] []))
              refine Go.st (fun _ k => XS.iconst X.here hx rfl (hb hby at_301) k) ?_
              show Go p e below _ (T.setTop (mkF m 302 #[.val (.long p0), .second, .val (.long p1), .second, .val (.long p2), .second, .val (.int p3), .val (.int lA), .val (.int ca), .val (.int cb), .val (.int lB), .val (.int (1 : Int32)), .val (.int da), .val (.int db), .val (.ref o18), .val (.ref o19), .val (.ref o20), .val (.ref o21), .val (.ref o22), .val (.ref o23), .val (.int kd), .val (.int (1 : Int32))] [(.int (1 : Int32))]))
              refine Go.st (fun _ k => XS.goto X.here hx rfl (pc0 := 302) (pc' := 306) rfl (hb hby at_302) (by decide) (by decide) k) ?_
              show Go p e below _ (T.setTop (mkF m 306 #[.val (.long p0), .second, .val (.long p1), .second, .val (.long p2), .second, .val (.int p3), .val (.int lA), .val (.int ca), .val (.int cb), .val (.int lB), .val (.int (1 : Int32)), .val (.int da), .val (.int db), .val (.ref o18), .val (.ref o19), .val (.ref o20), .val (.ref o21), .val (.ref o22), .val (.ref o23), .val (.int kd), .val (.int (1 : Int32))] [(.int (1 : Int32))]))
              refine Go.retH hEL H hZ X hx hlk hT hret (by decide) (riI (by simp)) (hb hby at_306) (by decide) (by decide) ?_
              exact ⟨rfl, N⟩
            · refine Go.st (fun _ k => XS.icmpNo X.here hx rfl (hb hby at_260) rfl (Jvm.Free.XT.ii_lt_f hc30) k) ?_
              show Go p e below _ (T.setTop (mkF m 263 #[.val (.long p0), .second, .val (.long p1), .second, .val (.long p2), .second, .val (.int p3), .val (.int lA), .val (.int ca), .val (.int cb), .val (.int lB), .val (.int (1 : Int32)), .val (.int da), .val (.int db), .val (.ref o18), .val (.ref o19), .val (.ref o20), .val (.ref o21), .val (.ref o22), .val (.ref o23), .val (.int kd), .unset] []))
              refine Go.st (fun _ k => XS.iload X.here hx rfl (hb hby at_263) rfl k) ?_
              show Go p e below _ (T.setTop (mkF m 265 #[.val (.long p0), .second, .val (.long p1), .second, .val (.long p2), .second, .val (.int p3), .val (.int lA), .val (.int ca), .val (.int cb), .val (.int lB), .val (.int (1 : Int32)), .val (.int da), .val (.int db), .val (.ref o18), .val (.ref o19), .val (.ref o20), .val (.ref o21), .val (.ref o22), .val (.ref o23), .val (.int kd), .unset] [(.int cb)]))
              refine Go.st (fun _ k => XS.iload X.here hx rfl (hb hby at_265) rfl k) ?_
              show Go p e below _ (T.setTop (mkF m 267 #[.val (.long p0), .second, .val (.long p1), .second, .val (.long p2), .second, .val (.int p3), .val (.int lA), .val (.int ca), .val (.int cb), .val (.int lB), .val (.int (1 : Int32)), .val (.int da), .val (.int db), .val (.ref o18), .val (.ref o19), .val (.ref o20), .val (.ref o21), .val (.ref o22), .val (.ref o23), .val (.int kd), .unset] [(.int db), (.int cb)]))
              by_cases hc31 : cb = db
              · refine Go.st (fun _ k => XS.icmpNo X.here hx rfl (hb hby at_267) rfl (Jvm.Free.XT.ii_ne_f hc31) k) ?_
                show Go p e below _ (T.setTop (mkF m 270 #[.val (.long p0), .second, .val (.long p1), .second, .val (.long p2), .second, .val (.int p3), .val (.int lA), .val (.int ca), .val (.int cb), .val (.int lB), .val (.int (1 : Int32)), .val (.int da), .val (.int db), .val (.ref o18), .val (.ref o19), .val (.ref o20), .val (.ref o21), .val (.ref o22), .val (.ref o23), .val (.int kd), .unset] []))
                refine Go.st (fun _ k => XS.iconst X.here hx rfl (hb hby at_270) k) ?_
                show Go p e below _ (T.setTop (mkF m 271 #[.val (.long p0), .second, .val (.long p1), .second, .val (.long p2), .second, .val (.int p3), .val (.int lA), .val (.int ca), .val (.int cb), .val (.int lB), .val (.int (1 : Int32)), .val (.int da), .val (.int db), .val (.ref o18), .val (.ref o19), .val (.ref o20), .val (.ref o21), .val (.ref o22), .val (.ref o23), .val (.int kd), .unset] [(.int (1 : Int32))]))
                refine Go.st (fun _ k => XS.goto X.here hx rfl (pc0 := 271) (pc' := 275) rfl (hb hby at_271) (by decide) (by decide) k) ?_
                show Go p e below _ (T.setTop (mkF m 275 #[.val (.long p0), .second, .val (.long p1), .second, .val (.long p2), .second, .val (.int p3), .val (.int lA), .val (.int ca), .val (.int cb), .val (.int lB), .val (.int (1 : Int32)), .val (.int da), .val (.int db), .val (.ref o18), .val (.ref o19), .val (.ref o20), .val (.ref o21), .val (.ref o22), .val (.ref o23), .val (.int kd), .unset] [(.int (1 : Int32))]))
                refine Go.st (fun _ k => XS.istore X.here hx rfl (hb hby at_275) rfl (l' := #[.val (.long p0), .second, .val (.long p1), .second, .val (.long p2), .second, .val (.int p3), .val (.int lA), .val (.int ca), .val (.int cb), .val (.int lB), .val (.int (1 : Int32)), .val (.int da), .val (.int db), .val (.ref o18), .val (.ref o19), .val (.ref o20), .val (.ref o21), .val (.ref o22), .val (.ref o23), .val (.int kd), .val (.int (1 : Int32))]) rfl k) ?_
                show Go p e below _ (T.setTop (mkF m 277 #[.val (.long p0), .second, .val (.long p1), .second, .val (.long p2), .second, .val (.int p3), .val (.int lA), .val (.int ca), .val (.int cb), .val (.int lB), .val (.int (1 : Int32)), .val (.int da), .val (.int db), .val (.ref o18), .val (.ref o19), .val (.ref o20), .val (.ref o21), .val (.ref o22), .val (.ref o23), .val (.int kd), .val (.int (1 : Int32))] []))
                refine Go.st (fun _ k => XS.aload X.here hx rfl (hb hby at_277) rfl rfl k) ?_
                show Go p e below _ (T.setTop (mkF m 279 #[.val (.long p0), .second, .val (.long p1), .second, .val (.long p2), .second, .val (.int p3), .val (.int lA), .val (.int ca), .val (.int cb), .val (.int lB), .val (.int (1 : Int32)), .val (.int da), .val (.int db), .val (.ref o18), .val (.ref o19), .val (.ref o20), .val (.ref o21), .val (.ref o22), .val (.ref o23), .val (.int kd), .val (.int (1 : Int32))] [(.ref o22)]))
                refine Go.st (fun _ k => XS.aload X.here hx rfl (hb hby at_279) rfl rfl k) ?_
                show Go p e below _ (T.setTop (mkF m 281 #[.val (.long p0), .second, .val (.long p1), .second, .val (.long p2), .second, .val (.int p3), .val (.int lA), .val (.int ca), .val (.int cb), .val (.int lB), .val (.int (1 : Int32)), .val (.int da), .val (.int db), .val (.ref o18), .val (.ref o19), .val (.ref o20), .val (.ref o21), .val (.ref o22), .val (.ref o23), .val (.int kd), .val (.int (1 : Int32))] [(.ref o23), (.ref o22)]))
                refine Go.virtV (K := "com/example/orgweave/orgweave/core/JsonValue") (z := (⟨"com/example/orgweave/orgweave/core/JsonValue", "equals", "(Ljava/lang/Object;)Z"⟩ : MethodName)) (argsL := [(.ref o23)]) (rest := []) (W := 0) (w := (.int (f_jeq (strL lA ca cb) (strL lB da db)))) X hx hZ hown (hml.trans rfl) hT A_o22 (hw _ (List.mem_of_getElem? (i := 70) rfl)) (hw _ (List.mem_of_getElem? (i := 71) rfl)) (hw _ (List.mem_of_getElem? (i := 73) rfl)) (hw _ (List.mem_of_getElem? (i := 72) rfl)) (by decide) pd_9 rfl rfl (Nat.le_of_ble_eq_true rfl) (hb hby at_281) (notFace_of_selects (args := #[]) (mvT hZ (hw _ (List.mem_of_getElem? (i := 73) rfl)))) (backOf (W := 0) (met_jeq l Z a0 hw [] z n0 o22 o23 o18 o19 (strL lA ca cb) (strL lB da db) _ O Sc A_o23 F_o22 F_o23 S_o18 S_o19) hZ (hw _ (List.mem_of_getElem? (i := 74) rfl)) (hw _ (List.mem_of_getElem? (i := 61) rfl)) (by decide) (by decide)) (by decide) (by decide) ?_
                intro T hT X
                show Go p e below _ (T.setTop (mkF m 284 #[.val (.long p0), .second, .val (.long p1), .second, .val (.long p2), .second, .val (.int p3), .val (.int lA), .val (.int ca), .val (.int cb), .val (.int lB), .val (.int (1 : Int32)), .val (.int da), .val (.int db), .val (.ref o18), .val (.ref o19), .val (.ref o20), .val (.ref o21), .val (.ref o22), .val (.ref o23), .val (.int kd), .val (.int (1 : Int32))] [(.int (f_jeq (strL lA ca cb) (strL lB da db)))]))
                refine Go.st (fun _ k => XS.iload X.here hx rfl (hb hby at_284) rfl k) ?_
                show Go p e below _ (T.setTop (mkF m 286 #[.val (.long p0), .second, .val (.long p1), .second, .val (.long p2), .second, .val (.int p3), .val (.int lA), .val (.int ca), .val (.int cb), .val (.int lB), .val (.int (1 : Int32)), .val (.int da), .val (.int db), .val (.ref o18), .val (.ref o19), .val (.ref o20), .val (.ref o21), .val (.ref o22), .val (.ref o23), .val (.int kd), .val (.int (1 : Int32))] [(.int (1 : Int32)), (.int (f_jeq (strL lA ca cb) (strL lB da db)))]))
                refine Go.st (fun _ k => XS.icmpNo X.here hx rfl (hb hby at_286) rfl (Jvm.Free.XT.ii_ne_f (own_jeq1 (own_3 hlA) (own_3 hlB) (own_m16 hca) (own_m16 hcb) (own_mx hda (own_m16 hca)) (own_mx hdb (own_m16 hcb)) ⟨hc25, Or.inr hc29, Or.inr hc31⟩ : (f_jeq (strL lA ca cb) (strL lB da db)) = (1 : Int32))) k) ?_
                show Go p e below _ (T.setTop (mkF m 289 #[.val (.long p0), .second, .val (.long p1), .second, .val (.long p2), .second, .val (.int p3), .val (.int lA), .val (.int ca), .val (.int cb), .val (.int lB), .val (.int (1 : Int32)), .val (.int da), .val (.int db), .val (.ref o18), .val (.ref o19), .val (.ref o20), .val (.ref o21), .val (.ref o22), .val (.ref o23), .val (.int kd), .val (.int (1 : Int32))] []))
                refine Go.st (fun _ k => XS.aload X.here hx rfl (hb hby at_289) rfl rfl k) ?_
                show Go p e below _ (T.setTop (mkF m 291 #[.val (.long p0), .second, .val (.long p1), .second, .val (.long p2), .second, .val (.int p3), .val (.int lA), .val (.int ca), .val (.int cb), .val (.int lB), .val (.int (1 : Int32)), .val (.int da), .val (.int db), .val (.ref o18), .val (.ref o19), .val (.ref o20), .val (.ref o21), .val (.ref o22), .val (.ref o23), .val (.int kd), .val (.int (1 : Int32))] [(.ref o23)]))
                refine Go.st (fun _ k => XS.aload X.here hx rfl (hb hby at_291) rfl rfl k) ?_
                show Go p e below _ (T.setTop (mkF m 293 #[.val (.long p0), .second, .val (.long p1), .second, .val (.long p2), .second, .val (.int p3), .val (.int lA), .val (.int ca), .val (.int cb), .val (.int lB), .val (.int (1 : Int32)), .val (.int da), .val (.int db), .val (.ref o18), .val (.ref o19), .val (.ref o20), .val (.ref o21), .val (.ref o22), .val (.ref o23), .val (.int kd), .val (.int (1 : Int32))] [(.ref o22), (.ref o23)]))
                refine Go.virtV (K := "com/example/orgweave/orgweave/core/JsonValue") (z := (⟨"com/example/orgweave/orgweave/core/JsonValue", "equals", "(Ljava/lang/Object;)Z"⟩ : MethodName)) (argsL := [(.ref o22)]) (rest := []) (W := 0) (w := (.int (f_jeq (strL lB da db) (strL lA ca cb)))) X hx hZ hown (hml.trans rfl) hT A_o23 (hw _ (List.mem_of_getElem? (i := 70) rfl)) (hw _ (List.mem_of_getElem? (i := 71) rfl)) (hw _ (List.mem_of_getElem? (i := 73) rfl)) (hw _ (List.mem_of_getElem? (i := 72) rfl)) (by decide) pd_9 rfl rfl (Nat.le_of_ble_eq_true rfl) (hb hby at_293) (notFace_of_selects (args := #[]) (mvT hZ (hw _ (List.mem_of_getElem? (i := 73) rfl)))) (backOf (W := 0) (met_jeq l Z a0 hw [] z n0 o23 o22 o19 o18 (strL lB da db) (strL lA ca cb) _ O Sc A_o22 F_o23 F_o22 S_o19 S_o18) hZ (hw _ (List.mem_of_getElem? (i := 74) rfl)) (hw _ (List.mem_of_getElem? (i := 61) rfl)) (by decide) (by decide)) (by decide) (by decide) ?_
                intro T hT X
                show Go p e below _ (T.setTop (mkF m 296 #[.val (.long p0), .second, .val (.long p1), .second, .val (.long p2), .second, .val (.int p3), .val (.int lA), .val (.int ca), .val (.int cb), .val (.int lB), .val (.int (1 : Int32)), .val (.int da), .val (.int db), .val (.ref o18), .val (.ref o19), .val (.ref o20), .val (.ref o21), .val (.ref o22), .val (.ref o23), .val (.int kd), .val (.int (1 : Int32))] [(.int (f_jeq (strL lB da db) (strL lA ca cb)))]))
                refine Go.st (fun _ k => XS.iload X.here hx rfl (hb hby at_296) rfl k) ?_
                show Go p e below _ (T.setTop (mkF m 298 #[.val (.long p0), .second, .val (.long p1), .second, .val (.long p2), .second, .val (.int p3), .val (.int lA), .val (.int ca), .val (.int cb), .val (.int lB), .val (.int (1 : Int32)), .val (.int da), .val (.int db), .val (.ref o18), .val (.ref o19), .val (.ref o20), .val (.ref o21), .val (.ref o22), .val (.ref o23), .val (.int kd), .val (.int (1 : Int32))] [(.int (1 : Int32)), (.int (f_jeq (strL lB da db) (strL lA ca cb)))]))
                refine Go.st (fun _ k => XS.icmpNo X.here hx rfl (hb hby at_298) rfl (Jvm.Free.XT.ii_ne_f (own_jeq1S (own_3 hlA) (own_3 hlB) (own_m16 hca) (own_m16 hcb) (own_mx hda (own_m16 hca)) (own_mx hdb (own_m16 hcb)) ⟨hc25, Or.inr hc29, Or.inr hc31⟩ : (f_jeq (strL lB da db) (strL lA ca cb)) = (1 : Int32))) k) ?_
                show Go p e below _ (T.setTop (mkF m 301 #[.val (.long p0), .second, .val (.long p1), .second, .val (.long p2), .second, .val (.int p3), .val (.int lA), .val (.int ca), .val (.int cb), .val (.int lB), .val (.int (1 : Int32)), .val (.int da), .val (.int db), .val (.ref o18), .val (.ref o19), .val (.ref o20), .val (.ref o21), .val (.ref o22), .val (.ref o23), .val (.int kd), .val (.int (1 : Int32))] []))
                refine Go.st (fun _ k => XS.iconst X.here hx rfl (hb hby at_301) k) ?_
                show Go p e below _ (T.setTop (mkF m 302 #[.val (.long p0), .second, .val (.long p1), .second, .val (.long p2), .second, .val (.int p3), .val (.int lA), .val (.int ca), .val (.int cb), .val (.int lB), .val (.int (1 : Int32)), .val (.int da), .val (.int db), .val (.ref o18), .val (.ref o19), .val (.ref o20), .val (.ref o21), .val (.ref o22), .val (.ref o23), .val (.int kd), .val (.int (1 : Int32))] [(.int (1 : Int32))]))
                refine Go.st (fun _ k => XS.goto X.here hx rfl (pc0 := 302) (pc' := 306) rfl (hb hby at_302) (by decide) (by decide) k) ?_
                show Go p e below _ (T.setTop (mkF m 306 #[.val (.long p0), .second, .val (.long p1), .second, .val (.long p2), .second, .val (.int p3), .val (.int lA), .val (.int ca), .val (.int cb), .val (.int lB), .val (.int (1 : Int32)), .val (.int da), .val (.int db), .val (.ref o18), .val (.ref o19), .val (.ref o20), .val (.ref o21), .val (.ref o22), .val (.ref o23), .val (.int kd), .val (.int (1 : Int32))] [(.int (1 : Int32))]))
                refine Go.retH hEL H hZ X hx hlk hT hret (by decide) (riI (by simp)) (hb hby at_306) (by decide) (by decide) ?_
                exact ⟨rfl, N⟩
              · refine Go.st (fun _ k => XS.icmpYes X.here hx rfl (pc0 := 267) (pc' := 274) rfl (hb hby at_267) rfl (Jvm.Free.XT.ii_ne_t hc31) (by decide) (by decide) k) ?_
                show Go p e below _ (T.setTop (mkF m 274 #[.val (.long p0), .second, .val (.long p1), .second, .val (.long p2), .second, .val (.int p3), .val (.int lA), .val (.int ca), .val (.int cb), .val (.int lB), .val (.int (1 : Int32)), .val (.int da), .val (.int db), .val (.ref o18), .val (.ref o19), .val (.ref o20), .val (.ref o21), .val (.ref o22), .val (.ref o23), .val (.int kd), .unset] []))
                refine Go.st (fun _ k => XS.iconst X.here hx rfl (hb hby at_274) k) ?_
                show Go p e below _ (T.setTop (mkF m 275 #[.val (.long p0), .second, .val (.long p1), .second, .val (.long p2), .second, .val (.int p3), .val (.int lA), .val (.int ca), .val (.int cb), .val (.int lB), .val (.int (1 : Int32)), .val (.int da), .val (.int db), .val (.ref o18), .val (.ref o19), .val (.ref o20), .val (.ref o21), .val (.ref o22), .val (.ref o23), .val (.int kd), .unset] [(.int (0 : Int32))]))
                refine Go.st (fun _ k => XS.istore X.here hx rfl (hb hby at_275) rfl (l' := #[.val (.long p0), .second, .val (.long p1), .second, .val (.long p2), .second, .val (.int p3), .val (.int lA), .val (.int ca), .val (.int cb), .val (.int lB), .val (.int (1 : Int32)), .val (.int da), .val (.int db), .val (.ref o18), .val (.ref o19), .val (.ref o20), .val (.ref o21), .val (.ref o22), .val (.ref o23), .val (.int kd), .val (.int (0 : Int32))]) rfl k) ?_
                show Go p e below _ (T.setTop (mkF m 277 #[.val (.long p0), .second, .val (.long p1), .second, .val (.long p2), .second, .val (.int p3), .val (.int lA), .val (.int ca), .val (.int cb), .val (.int lB), .val (.int (1 : Int32)), .val (.int da), .val (.int db), .val (.ref o18), .val (.ref o19), .val (.ref o20), .val (.ref o21), .val (.ref o22), .val (.ref o23), .val (.int kd), .val (.int (0 : Int32))] []))
                refine Go.st (fun _ k => XS.aload X.here hx rfl (hb hby at_277) rfl rfl k) ?_
                show Go p e below _ (T.setTop (mkF m 279 #[.val (.long p0), .second, .val (.long p1), .second, .val (.long p2), .second, .val (.int p3), .val (.int lA), .val (.int ca), .val (.int cb), .val (.int lB), .val (.int (1 : Int32)), .val (.int da), .val (.int db), .val (.ref o18), .val (.ref o19), .val (.ref o20), .val (.ref o21), .val (.ref o22), .val (.ref o23), .val (.int kd), .val (.int (0 : Int32))] [(.ref o22)]))
                refine Go.st (fun _ k => XS.aload X.here hx rfl (hb hby at_279) rfl rfl k) ?_
                show Go p e below _ (T.setTop (mkF m 281 #[.val (.long p0), .second, .val (.long p1), .second, .val (.long p2), .second, .val (.int p3), .val (.int lA), .val (.int ca), .val (.int cb), .val (.int lB), .val (.int (1 : Int32)), .val (.int da), .val (.int db), .val (.ref o18), .val (.ref o19), .val (.ref o20), .val (.ref o21), .val (.ref o22), .val (.ref o23), .val (.int kd), .val (.int (0 : Int32))] [(.ref o23), (.ref o22)]))
                refine Go.virtV (K := "com/example/orgweave/orgweave/core/JsonValue") (z := (⟨"com/example/orgweave/orgweave/core/JsonValue", "equals", "(Ljava/lang/Object;)Z"⟩ : MethodName)) (argsL := [(.ref o23)]) (rest := []) (W := 0) (w := (.int (f_jeq (strL lA ca cb) (strL lB da db)))) X hx hZ hown (hml.trans rfl) hT A_o22 (hw _ (List.mem_of_getElem? (i := 70) rfl)) (hw _ (List.mem_of_getElem? (i := 71) rfl)) (hw _ (List.mem_of_getElem? (i := 73) rfl)) (hw _ (List.mem_of_getElem? (i := 72) rfl)) (by decide) pd_9 rfl rfl (Nat.le_of_ble_eq_true rfl) (hb hby at_281) (notFace_of_selects (args := #[]) (mvT hZ (hw _ (List.mem_of_getElem? (i := 73) rfl)))) (backOf (W := 0) (met_jeq l Z a0 hw [] z n0 o22 o23 o18 o19 (strL lA ca cb) (strL lB da db) _ O Sc A_o23 F_o22 F_o23 S_o18 S_o19) hZ (hw _ (List.mem_of_getElem? (i := 74) rfl)) (hw _ (List.mem_of_getElem? (i := 61) rfl)) (by decide) (by decide)) (by decide) (by decide) ?_
                intro T hT X
                show Go p e below _ (T.setTop (mkF m 284 #[.val (.long p0), .second, .val (.long p1), .second, .val (.long p2), .second, .val (.int p3), .val (.int lA), .val (.int ca), .val (.int cb), .val (.int lB), .val (.int (1 : Int32)), .val (.int da), .val (.int db), .val (.ref o18), .val (.ref o19), .val (.ref o20), .val (.ref o21), .val (.ref o22), .val (.ref o23), .val (.int kd), .val (.int (0 : Int32))] [(.int (f_jeq (strL lA ca cb) (strL lB da db)))]))
                refine Go.st (fun _ k => XS.iload X.here hx rfl (hb hby at_284) rfl k) ?_
                show Go p e below _ (T.setTop (mkF m 286 #[.val (.long p0), .second, .val (.long p1), .second, .val (.long p2), .second, .val (.int p3), .val (.int lA), .val (.int ca), .val (.int cb), .val (.int lB), .val (.int (1 : Int32)), .val (.int da), .val (.int db), .val (.ref o18), .val (.ref o19), .val (.ref o20), .val (.ref o21), .val (.ref o22), .val (.ref o23), .val (.int kd), .val (.int (0 : Int32))] [(.int (0 : Int32)), (.int (f_jeq (strL lA ca cb) (strL lB da db)))]))
                refine Go.st (fun _ k => XS.icmpNo X.here hx rfl (hb hby at_286) rfl (Jvm.Free.XT.ii_ne_f (own_jeq0 (own_3 hlA) (own_3 hlB) (own_m16 hca) (own_m16 hcb) (own_mx hda (own_m16 hca)) (own_mx hdb (own_m16 hcb)) (fun q => q.2.2.elim hc30 hc31) : (f_jeq (strL lA ca cb) (strL lB da db)) = (0 : Int32))) k) ?_
                show Go p e below _ (T.setTop (mkF m 289 #[.val (.long p0), .second, .val (.long p1), .second, .val (.long p2), .second, .val (.int p3), .val (.int lA), .val (.int ca), .val (.int cb), .val (.int lB), .val (.int (1 : Int32)), .val (.int da), .val (.int db), .val (.ref o18), .val (.ref o19), .val (.ref o20), .val (.ref o21), .val (.ref o22), .val (.ref o23), .val (.int kd), .val (.int (0 : Int32))] []))
                refine Go.st (fun _ k => XS.aload X.here hx rfl (hb hby at_289) rfl rfl k) ?_
                show Go p e below _ (T.setTop (mkF m 291 #[.val (.long p0), .second, .val (.long p1), .second, .val (.long p2), .second, .val (.int p3), .val (.int lA), .val (.int ca), .val (.int cb), .val (.int lB), .val (.int (1 : Int32)), .val (.int da), .val (.int db), .val (.ref o18), .val (.ref o19), .val (.ref o20), .val (.ref o21), .val (.ref o22), .val (.ref o23), .val (.int kd), .val (.int (0 : Int32))] [(.ref o23)]))
                refine Go.st (fun _ k => XS.aload X.here hx rfl (hb hby at_291) rfl rfl k) ?_
                show Go p e below _ (T.setTop (mkF m 293 #[.val (.long p0), .second, .val (.long p1), .second, .val (.long p2), .second, .val (.int p3), .val (.int lA), .val (.int ca), .val (.int cb), .val (.int lB), .val (.int (1 : Int32)), .val (.int da), .val (.int db), .val (.ref o18), .val (.ref o19), .val (.ref o20), .val (.ref o21), .val (.ref o22), .val (.ref o23), .val (.int kd), .val (.int (0 : Int32))] [(.ref o22), (.ref o23)]))
                refine Go.virtV (K := "com/example/orgweave/orgweave/core/JsonValue") (z := (⟨"com/example/orgweave/orgweave/core/JsonValue", "equals", "(Ljava/lang/Object;)Z"⟩ : MethodName)) (argsL := [(.ref o22)]) (rest := []) (W := 0) (w := (.int (f_jeq (strL lB da db) (strL lA ca cb)))) X hx hZ hown (hml.trans rfl) hT A_o23 (hw _ (List.mem_of_getElem? (i := 70) rfl)) (hw _ (List.mem_of_getElem? (i := 71) rfl)) (hw _ (List.mem_of_getElem? (i := 73) rfl)) (hw _ (List.mem_of_getElem? (i := 72) rfl)) (by decide) pd_9 rfl rfl (Nat.le_of_ble_eq_true rfl) (hb hby at_293) (notFace_of_selects (args := #[]) (mvT hZ (hw _ (List.mem_of_getElem? (i := 73) rfl)))) (backOf (W := 0) (met_jeq l Z a0 hw [] z n0 o23 o22 o19 o18 (strL lB da db) (strL lA ca cb) _ O Sc A_o22 F_o23 F_o22 S_o19 S_o18) hZ (hw _ (List.mem_of_getElem? (i := 74) rfl)) (hw _ (List.mem_of_getElem? (i := 61) rfl)) (by decide) (by decide)) (by decide) (by decide) ?_
                intro T hT X
                show Go p e below _ (T.setTop (mkF m 296 #[.val (.long p0), .second, .val (.long p1), .second, .val (.long p2), .second, .val (.int p3), .val (.int lA), .val (.int ca), .val (.int cb), .val (.int lB), .val (.int (1 : Int32)), .val (.int da), .val (.int db), .val (.ref o18), .val (.ref o19), .val (.ref o20), .val (.ref o21), .val (.ref o22), .val (.ref o23), .val (.int kd), .val (.int (0 : Int32))] [(.int (f_jeq (strL lB da db) (strL lA ca cb)))]))
                refine Go.st (fun _ k => XS.iload X.here hx rfl (hb hby at_296) rfl k) ?_
                show Go p e below _ (T.setTop (mkF m 298 #[.val (.long p0), .second, .val (.long p1), .second, .val (.long p2), .second, .val (.int p3), .val (.int lA), .val (.int ca), .val (.int cb), .val (.int lB), .val (.int (1 : Int32)), .val (.int da), .val (.int db), .val (.ref o18), .val (.ref o19), .val (.ref o20), .val (.ref o21), .val (.ref o22), .val (.ref o23), .val (.int kd), .val (.int (0 : Int32))] [(.int (0 : Int32)), (.int (f_jeq (strL lB da db) (strL lA ca cb)))]))
                refine Go.st (fun _ k => XS.icmpNo X.here hx rfl (hb hby at_298) rfl (Jvm.Free.XT.ii_ne_f (own_jeq0S (own_3 hlA) (own_3 hlB) (own_m16 hca) (own_m16 hcb) (own_mx hda (own_m16 hca)) (own_mx hdb (own_m16 hcb)) (fun q => q.2.2.elim hc30 hc31) : (f_jeq (strL lB da db) (strL lA ca cb)) = (0 : Int32))) k) ?_
                show Go p e below _ (T.setTop (mkF m 301 #[.val (.long p0), .second, .val (.long p1), .second, .val (.long p2), .second, .val (.int p3), .val (.int lA), .val (.int ca), .val (.int cb), .val (.int lB), .val (.int (1 : Int32)), .val (.int da), .val (.int db), .val (.ref o18), .val (.ref o19), .val (.ref o20), .val (.ref o21), .val (.ref o22), .val (.ref o23), .val (.int kd), .val (.int (0 : Int32))] []))
                refine Go.st (fun _ k => XS.iconst X.here hx rfl (hb hby at_301) k) ?_
                show Go p e below _ (T.setTop (mkF m 302 #[.val (.long p0), .second, .val (.long p1), .second, .val (.long p2), .second, .val (.int p3), .val (.int lA), .val (.int ca), .val (.int cb), .val (.int lB), .val (.int (1 : Int32)), .val (.int da), .val (.int db), .val (.ref o18), .val (.ref o19), .val (.ref o20), .val (.ref o21), .val (.ref o22), .val (.ref o23), .val (.int kd), .val (.int (0 : Int32))] [(.int (1 : Int32))]))
                refine Go.st (fun _ k => XS.goto X.here hx rfl (pc0 := 302) (pc' := 306) rfl (hb hby at_302) (by decide) (by decide) k) ?_
                show Go p e below _ (T.setTop (mkF m 306 #[.val (.long p0), .second, .val (.long p1), .second, .val (.long p2), .second, .val (.int p3), .val (.int lA), .val (.int ca), .val (.int cb), .val (.int lB), .val (.int (1 : Int32)), .val (.int da), .val (.int db), .val (.ref o18), .val (.ref o19), .val (.ref o20), .val (.ref o21), .val (.ref o22), .val (.ref o23), .val (.int kd), .val (.int (0 : Int32))] [(.int (1 : Int32))]))
                refine Go.retH hEL H hZ X hx hlk hT hret (by decide) (riI (by simp)) (hb hby at_306) (by decide) (by decide) ?_
                exact ⟨rfl, N⟩
          · refine Go.st (fun _ k => XS.icmpYes X.here hx rfl (pc0 := 254) (pc' := 274) rfl (hb hby at_254) rfl (Jvm.Free.XT.ii_ne_t hc29) (by decide) (by decide) k) ?_
            show Go p e below _ (T.setTop (mkF m 274 #[.val (.long p0), .second, .val (.long p1), .second, .val (.long p2), .second, .val (.int p3), .val (.int lA), .val (.int ca), .val (.int cb), .val (.int lB), .val (.int (1 : Int32)), .val (.int da), .val (.int db), .val (.ref o18), .val (.ref o19), .val (.ref o20), .val (.ref o21), .val (.ref o22), .val (.ref o23), .val (.int kd), .unset] []))
            refine Go.st (fun _ k => XS.iconst X.here hx rfl (hb hby at_274) k) ?_
            show Go p e below _ (T.setTop (mkF m 275 #[.val (.long p0), .second, .val (.long p1), .second, .val (.long p2), .second, .val (.int p3), .val (.int lA), .val (.int ca), .val (.int cb), .val (.int lB), .val (.int (1 : Int32)), .val (.int da), .val (.int db), .val (.ref o18), .val (.ref o19), .val (.ref o20), .val (.ref o21), .val (.ref o22), .val (.ref o23), .val (.int kd), .unset] [(.int (0 : Int32))]))
            refine Go.st (fun _ k => XS.istore X.here hx rfl (hb hby at_275) rfl (l' := #[.val (.long p0), .second, .val (.long p1), .second, .val (.long p2), .second, .val (.int p3), .val (.int lA), .val (.int ca), .val (.int cb), .val (.int lB), .val (.int (1 : Int32)), .val (.int da), .val (.int db), .val (.ref o18), .val (.ref o19), .val (.ref o20), .val (.ref o21), .val (.ref o22), .val (.ref o23), .val (.int kd), .val (.int (0 : Int32))]) rfl k) ?_
            show Go p e below _ (T.setTop (mkF m 277 #[.val (.long p0), .second, .val (.long p1), .second, .val (.long p2), .second, .val (.int p3), .val (.int lA), .val (.int ca), .val (.int cb), .val (.int lB), .val (.int (1 : Int32)), .val (.int da), .val (.int db), .val (.ref o18), .val (.ref o19), .val (.ref o20), .val (.ref o21), .val (.ref o22), .val (.ref o23), .val (.int kd), .val (.int (0 : Int32))] []))
            refine Go.st (fun _ k => XS.aload X.here hx rfl (hb hby at_277) rfl rfl k) ?_
            show Go p e below _ (T.setTop (mkF m 279 #[.val (.long p0), .second, .val (.long p1), .second, .val (.long p2), .second, .val (.int p3), .val (.int lA), .val (.int ca), .val (.int cb), .val (.int lB), .val (.int (1 : Int32)), .val (.int da), .val (.int db), .val (.ref o18), .val (.ref o19), .val (.ref o20), .val (.ref o21), .val (.ref o22), .val (.ref o23), .val (.int kd), .val (.int (0 : Int32))] [(.ref o22)]))
            refine Go.st (fun _ k => XS.aload X.here hx rfl (hb hby at_279) rfl rfl k) ?_
            show Go p e below _ (T.setTop (mkF m 281 #[.val (.long p0), .second, .val (.long p1), .second, .val (.long p2), .second, .val (.int p3), .val (.int lA), .val (.int ca), .val (.int cb), .val (.int lB), .val (.int (1 : Int32)), .val (.int da), .val (.int db), .val (.ref o18), .val (.ref o19), .val (.ref o20), .val (.ref o21), .val (.ref o22), .val (.ref o23), .val (.int kd), .val (.int (0 : Int32))] [(.ref o23), (.ref o22)]))
            refine Go.virtV (K := "com/example/orgweave/orgweave/core/JsonValue") (z := (⟨"com/example/orgweave/orgweave/core/JsonValue", "equals", "(Ljava/lang/Object;)Z"⟩ : MethodName)) (argsL := [(.ref o23)]) (rest := []) (W := 0) (w := (.int (f_jeq (strL lA ca cb) (strL lB da db)))) X hx hZ hown (hml.trans rfl) hT A_o22 (hw _ (List.mem_of_getElem? (i := 70) rfl)) (hw _ (List.mem_of_getElem? (i := 71) rfl)) (hw _ (List.mem_of_getElem? (i := 73) rfl)) (hw _ (List.mem_of_getElem? (i := 72) rfl)) (by decide) pd_9 rfl rfl (Nat.le_of_ble_eq_true rfl) (hb hby at_281) (notFace_of_selects (args := #[]) (mvT hZ (hw _ (List.mem_of_getElem? (i := 73) rfl)))) (backOf (W := 0) (met_jeq l Z a0 hw [] z n0 o22 o23 o18 o19 (strL lA ca cb) (strL lB da db) _ O Sc A_o23 F_o22 F_o23 S_o18 S_o19) hZ (hw _ (List.mem_of_getElem? (i := 74) rfl)) (hw _ (List.mem_of_getElem? (i := 61) rfl)) (by decide) (by decide)) (by decide) (by decide) ?_
            intro T hT X
            show Go p e below _ (T.setTop (mkF m 284 #[.val (.long p0), .second, .val (.long p1), .second, .val (.long p2), .second, .val (.int p3), .val (.int lA), .val (.int ca), .val (.int cb), .val (.int lB), .val (.int (1 : Int32)), .val (.int da), .val (.int db), .val (.ref o18), .val (.ref o19), .val (.ref o20), .val (.ref o21), .val (.ref o22), .val (.ref o23), .val (.int kd), .val (.int (0 : Int32))] [(.int (f_jeq (strL lA ca cb) (strL lB da db)))]))
            refine Go.st (fun _ k => XS.iload X.here hx rfl (hb hby at_284) rfl k) ?_
            show Go p e below _ (T.setTop (mkF m 286 #[.val (.long p0), .second, .val (.long p1), .second, .val (.long p2), .second, .val (.int p3), .val (.int lA), .val (.int ca), .val (.int cb), .val (.int lB), .val (.int (1 : Int32)), .val (.int da), .val (.int db), .val (.ref o18), .val (.ref o19), .val (.ref o20), .val (.ref o21), .val (.ref o22), .val (.ref o23), .val (.int kd), .val (.int (0 : Int32))] [(.int (0 : Int32)), (.int (f_jeq (strL lA ca cb) (strL lB da db)))]))
            refine Go.st (fun _ k => XS.icmpNo X.here hx rfl (hb hby at_286) rfl (Jvm.Free.XT.ii_ne_f (own_jeq0 (own_3 hlA) (own_3 hlB) (own_m16 hca) (own_m16 hcb) (own_mx hda (own_m16 hca)) (own_mx hdb (own_m16 hcb)) (fun q => q.2.1.elim hc26 hc29) : (f_jeq (strL lA ca cb) (strL lB da db)) = (0 : Int32))) k) ?_
            show Go p e below _ (T.setTop (mkF m 289 #[.val (.long p0), .second, .val (.long p1), .second, .val (.long p2), .second, .val (.int p3), .val (.int lA), .val (.int ca), .val (.int cb), .val (.int lB), .val (.int (1 : Int32)), .val (.int da), .val (.int db), .val (.ref o18), .val (.ref o19), .val (.ref o20), .val (.ref o21), .val (.ref o22), .val (.ref o23), .val (.int kd), .val (.int (0 : Int32))] []))
            refine Go.st (fun _ k => XS.aload X.here hx rfl (hb hby at_289) rfl rfl k) ?_
            show Go p e below _ (T.setTop (mkF m 291 #[.val (.long p0), .second, .val (.long p1), .second, .val (.long p2), .second, .val (.int p3), .val (.int lA), .val (.int ca), .val (.int cb), .val (.int lB), .val (.int (1 : Int32)), .val (.int da), .val (.int db), .val (.ref o18), .val (.ref o19), .val (.ref o20), .val (.ref o21), .val (.ref o22), .val (.ref o23), .val (.int kd), .val (.int (0 : Int32))] [(.ref o23)]))
            refine Go.st (fun _ k => XS.aload X.here hx rfl (hb hby at_291) rfl rfl k) ?_
            show Go p e below _ (T.setTop (mkF m 293 #[.val (.long p0), .second, .val (.long p1), .second, .val (.long p2), .second, .val (.int p3), .val (.int lA), .val (.int ca), .val (.int cb), .val (.int lB), .val (.int (1 : Int32)), .val (.int da), .val (.int db), .val (.ref o18), .val (.ref o19), .val (.ref o20), .val (.ref o21), .val (.ref o22), .val (.ref o23), .val (.int kd), .val (.int (0 : Int32))] [(.ref o22), (.ref o23)]))
            refine Go.virtV (K := "com/example/orgweave/orgweave/core/JsonValue") (z := (⟨"com/example/orgweave/orgweave/core/JsonValue", "equals", "(Ljava/lang/Object;)Z"⟩ : MethodName)) (argsL := [(.ref o22)]) (rest := []) (W := 0) (w := (.int (f_jeq (strL lB da db) (strL lA ca cb)))) X hx hZ hown (hml.trans rfl) hT A_o23 (hw _ (List.mem_of_getElem? (i := 70) rfl)) (hw _ (List.mem_of_getElem? (i := 71) rfl)) (hw _ (List.mem_of_getElem? (i := 73) rfl)) (hw _ (List.mem_of_getElem? (i := 72) rfl)) (by decide) pd_9 rfl rfl (Nat.le_of_ble_eq_true rfl) (hb hby at_293) (notFace_of_selects (args := #[]) (mvT hZ (hw _ (List.mem_of_getElem? (i := 73) rfl)))) (backOf (W := 0) (met_jeq l Z a0 hw [] z n0 o23 o22 o19 o18 (strL lB da db) (strL lA ca cb) _ O Sc A_o22 F_o23 F_o22 S_o19 S_o18) hZ (hw _ (List.mem_of_getElem? (i := 74) rfl)) (hw _ (List.mem_of_getElem? (i := 61) rfl)) (by decide) (by decide)) (by decide) (by decide) ?_
            intro T hT X
            show Go p e below _ (T.setTop (mkF m 296 #[.val (.long p0), .second, .val (.long p1), .second, .val (.long p2), .second, .val (.int p3), .val (.int lA), .val (.int ca), .val (.int cb), .val (.int lB), .val (.int (1 : Int32)), .val (.int da), .val (.int db), .val (.ref o18), .val (.ref o19), .val (.ref o20), .val (.ref o21), .val (.ref o22), .val (.ref o23), .val (.int kd), .val (.int (0 : Int32))] [(.int (f_jeq (strL lB da db) (strL lA ca cb)))]))
            refine Go.st (fun _ k => XS.iload X.here hx rfl (hb hby at_296) rfl k) ?_
            show Go p e below _ (T.setTop (mkF m 298 #[.val (.long p0), .second, .val (.long p1), .second, .val (.long p2), .second, .val (.int p3), .val (.int lA), .val (.int ca), .val (.int cb), .val (.int lB), .val (.int (1 : Int32)), .val (.int da), .val (.int db), .val (.ref o18), .val (.ref o19), .val (.ref o20), .val (.ref o21), .val (.ref o22), .val (.ref o23), .val (.int kd), .val (.int (0 : Int32))] [(.int (0 : Int32)), (.int (f_jeq (strL lB da db) (strL lA ca cb)))]))
            refine Go.st (fun _ k => XS.icmpNo X.here hx rfl (hb hby at_298) rfl (Jvm.Free.XT.ii_ne_f (own_jeq0S (own_3 hlA) (own_3 hlB) (own_m16 hca) (own_m16 hcb) (own_mx hda (own_m16 hca)) (own_mx hdb (own_m16 hcb)) (fun q => q.2.1.elim hc26 hc29) : (f_jeq (strL lB da db) (strL lA ca cb)) = (0 : Int32))) k) ?_
            show Go p e below _ (T.setTop (mkF m 301 #[.val (.long p0), .second, .val (.long p1), .second, .val (.long p2), .second, .val (.int p3), .val (.int lA), .val (.int ca), .val (.int cb), .val (.int lB), .val (.int (1 : Int32)), .val (.int da), .val (.int db), .val (.ref o18), .val (.ref o19), .val (.ref o20), .val (.ref o21), .val (.ref o22), .val (.ref o23), .val (.int kd), .val (.int (0 : Int32))] []))
            refine Go.st (fun _ k => XS.iconst X.here hx rfl (hb hby at_301) k) ?_
            show Go p e below _ (T.setTop (mkF m 302 #[.val (.long p0), .second, .val (.long p1), .second, .val (.long p2), .second, .val (.int p3), .val (.int lA), .val (.int ca), .val (.int cb), .val (.int lB), .val (.int (1 : Int32)), .val (.int da), .val (.int db), .val (.ref o18), .val (.ref o19), .val (.ref o20), .val (.ref o21), .val (.ref o22), .val (.ref o23), .val (.int kd), .val (.int (0 : Int32))] [(.int (1 : Int32))]))
            refine Go.st (fun _ k => XS.goto X.here hx rfl (pc0 := 302) (pc' := 306) rfl (hb hby at_302) (by decide) (by decide) k) ?_
            show Go p e below _ (T.setTop (mkF m 306 #[.val (.long p0), .second, .val (.long p1), .second, .val (.long p2), .second, .val (.int p3), .val (.int lA), .val (.int ca), .val (.int cb), .val (.int lB), .val (.int (1 : Int32)), .val (.int da), .val (.int db), .val (.ref o18), .val (.ref o19), .val (.ref o20), .val (.ref o21), .val (.ref o22), .val (.ref o23), .val (.int kd), .val (.int (0 : Int32))] [(.int (1 : Int32))]))
            refine Go.retH hEL H hZ X hx hlk hT hret (by decide) (riI (by simp)) (hb hby at_306) (by decide) (by decide) ?_
            exact ⟨rfl, N⟩
      · refine Go.st (fun _ k => XS.icmpYes X.here hx rfl (pc0 := 241) (pc' := 274) rfl (hb hby at_241) rfl (Jvm.Free.XT.ii_ne_t hc25) (by decide) (by decide) k) ?_
        show Go p e below _ (T.setTop (mkF m 274 #[.val (.long p0), .second, .val (.long p1), .second, .val (.long p2), .second, .val (.int p3), .val (.int lA), .val (.int ca), .val (.int cb), .val (.int lB), .val (.int (1 : Int32)), .val (.int da), .val (.int db), .val (.ref o18), .val (.ref o19), .val (.ref o20), .val (.ref o21), .val (.ref o22), .val (.ref o23), .val (.int kd), .unset] []))
        refine Go.st (fun _ k => XS.iconst X.here hx rfl (hb hby at_274) k) ?_
        show Go p e below _ (T.setTop (mkF m 275 #[.val (.long p0), .second, .val (.long p1), .second, .val (.long p2), .second, .val (.int p3), .val (.int lA), .val (.int ca), .val (.int cb), .val (.int lB), .val (.int (1 : Int32)), .val (.int da), .val (.int db), .val (.ref o18), .val (.ref o19), .val (.ref o20), .val (.ref o21), .val (.ref o22), .val (.ref o23), .val (.int kd), .unset] [(.int (0 : Int32))]))
        refine Go.st (fun _ k => XS.istore X.here hx rfl (hb hby at_275) rfl (l' := #[.val (.long p0), .second, .val (.long p1), .second, .val (.long p2), .second, .val (.int p3), .val (.int lA), .val (.int ca), .val (.int cb), .val (.int lB), .val (.int (1 : Int32)), .val (.int da), .val (.int db), .val (.ref o18), .val (.ref o19), .val (.ref o20), .val (.ref o21), .val (.ref o22), .val (.ref o23), .val (.int kd), .val (.int (0 : Int32))]) rfl k) ?_
        show Go p e below _ (T.setTop (mkF m 277 #[.val (.long p0), .second, .val (.long p1), .second, .val (.long p2), .second, .val (.int p3), .val (.int lA), .val (.int ca), .val (.int cb), .val (.int lB), .val (.int (1 : Int32)), .val (.int da), .val (.int db), .val (.ref o18), .val (.ref o19), .val (.ref o20), .val (.ref o21), .val (.ref o22), .val (.ref o23), .val (.int kd), .val (.int (0 : Int32))] []))
        refine Go.st (fun _ k => XS.aload X.here hx rfl (hb hby at_277) rfl rfl k) ?_
        show Go p e below _ (T.setTop (mkF m 279 #[.val (.long p0), .second, .val (.long p1), .second, .val (.long p2), .second, .val (.int p3), .val (.int lA), .val (.int ca), .val (.int cb), .val (.int lB), .val (.int (1 : Int32)), .val (.int da), .val (.int db), .val (.ref o18), .val (.ref o19), .val (.ref o20), .val (.ref o21), .val (.ref o22), .val (.ref o23), .val (.int kd), .val (.int (0 : Int32))] [(.ref o22)]))
        refine Go.st (fun _ k => XS.aload X.here hx rfl (hb hby at_279) rfl rfl k) ?_
        show Go p e below _ (T.setTop (mkF m 281 #[.val (.long p0), .second, .val (.long p1), .second, .val (.long p2), .second, .val (.int p3), .val (.int lA), .val (.int ca), .val (.int cb), .val (.int lB), .val (.int (1 : Int32)), .val (.int da), .val (.int db), .val (.ref o18), .val (.ref o19), .val (.ref o20), .val (.ref o21), .val (.ref o22), .val (.ref o23), .val (.int kd), .val (.int (0 : Int32))] [(.ref o23), (.ref o22)]))
        refine Go.virtV (K := "com/example/orgweave/orgweave/core/JsonValue") (z := (⟨"com/example/orgweave/orgweave/core/JsonValue", "equals", "(Ljava/lang/Object;)Z"⟩ : MethodName)) (argsL := [(.ref o23)]) (rest := []) (W := 0) (w := (.int (f_jeq (strL lA ca cb) (strL lB da db)))) X hx hZ hown (hml.trans rfl) hT A_o22 (hw _ (List.mem_of_getElem? (i := 70) rfl)) (hw _ (List.mem_of_getElem? (i := 71) rfl)) (hw _ (List.mem_of_getElem? (i := 73) rfl)) (hw _ (List.mem_of_getElem? (i := 72) rfl)) (by decide) pd_9 rfl rfl (Nat.le_of_ble_eq_true rfl) (hb hby at_281) (notFace_of_selects (args := #[]) (mvT hZ (hw _ (List.mem_of_getElem? (i := 73) rfl)))) (backOf (W := 0) (met_jeq l Z a0 hw [] z n0 o22 o23 o18 o19 (strL lA ca cb) (strL lB da db) _ O Sc A_o23 F_o22 F_o23 S_o18 S_o19) hZ (hw _ (List.mem_of_getElem? (i := 74) rfl)) (hw _ (List.mem_of_getElem? (i := 61) rfl)) (by decide) (by decide)) (by decide) (by decide) ?_
        intro T hT X
        show Go p e below _ (T.setTop (mkF m 284 #[.val (.long p0), .second, .val (.long p1), .second, .val (.long p2), .second, .val (.int p3), .val (.int lA), .val (.int ca), .val (.int cb), .val (.int lB), .val (.int (1 : Int32)), .val (.int da), .val (.int db), .val (.ref o18), .val (.ref o19), .val (.ref o20), .val (.ref o21), .val (.ref o22), .val (.ref o23), .val (.int kd), .val (.int (0 : Int32))] [(.int (f_jeq (strL lA ca cb) (strL lB da db)))]))
        refine Go.st (fun _ k => XS.iload X.here hx rfl (hb hby at_284) rfl k) ?_
        show Go p e below _ (T.setTop (mkF m 286 #[.val (.long p0), .second, .val (.long p1), .second, .val (.long p2), .second, .val (.int p3), .val (.int lA), .val (.int ca), .val (.int cb), .val (.int lB), .val (.int (1 : Int32)), .val (.int da), .val (.int db), .val (.ref o18), .val (.ref o19), .val (.ref o20), .val (.ref o21), .val (.ref o22), .val (.ref o23), .val (.int kd), .val (.int (0 : Int32))] [(.int (0 : Int32)), (.int (f_jeq (strL lA ca cb) (strL lB da db)))]))
        refine Go.st (fun _ k => XS.icmpNo X.here hx rfl (hb hby at_286) rfl (Jvm.Free.XT.ii_ne_f (own_jeq0 (own_3 hlA) (own_3 hlB) (own_m16 hca) (own_m16 hcb) (own_mx hda (own_m16 hca)) (own_mx hdb (own_m16 hcb)) (fun q => hc25 q.1) : (f_jeq (strL lA ca cb) (strL lB da db)) = (0 : Int32))) k) ?_
        show Go p e below _ (T.setTop (mkF m 289 #[.val (.long p0), .second, .val (.long p1), .second, .val (.long p2), .second, .val (.int p3), .val (.int lA), .val (.int ca), .val (.int cb), .val (.int lB), .val (.int (1 : Int32)), .val (.int da), .val (.int db), .val (.ref o18), .val (.ref o19), .val (.ref o20), .val (.ref o21), .val (.ref o22), .val (.ref o23), .val (.int kd), .val (.int (0 : Int32))] []))
        refine Go.st (fun _ k => XS.aload X.here hx rfl (hb hby at_289) rfl rfl k) ?_
        show Go p e below _ (T.setTop (mkF m 291 #[.val (.long p0), .second, .val (.long p1), .second, .val (.long p2), .second, .val (.int p3), .val (.int lA), .val (.int ca), .val (.int cb), .val (.int lB), .val (.int (1 : Int32)), .val (.int da), .val (.int db), .val (.ref o18), .val (.ref o19), .val (.ref o20), .val (.ref o21), .val (.ref o22), .val (.ref o23), .val (.int kd), .val (.int (0 : Int32))] [(.ref o23)]))
        refine Go.st (fun _ k => XS.aload X.here hx rfl (hb hby at_291) rfl rfl k) ?_
        show Go p e below _ (T.setTop (mkF m 293 #[.val (.long p0), .second, .val (.long p1), .second, .val (.long p2), .second, .val (.int p3), .val (.int lA), .val (.int ca), .val (.int cb), .val (.int lB), .val (.int (1 : Int32)), .val (.int da), .val (.int db), .val (.ref o18), .val (.ref o19), .val (.ref o20), .val (.ref o21), .val (.ref o22), .val (.ref o23), .val (.int kd), .val (.int (0 : Int32))] [(.ref o22), (.ref o23)]))
        refine Go.virtV (K := "com/example/orgweave/orgweave/core/JsonValue") (z := (⟨"com/example/orgweave/orgweave/core/JsonValue", "equals", "(Ljava/lang/Object;)Z"⟩ : MethodName)) (argsL := [(.ref o22)]) (rest := []) (W := 0) (w := (.int (f_jeq (strL lB da db) (strL lA ca cb)))) X hx hZ hown (hml.trans rfl) hT A_o23 (hw _ (List.mem_of_getElem? (i := 70) rfl)) (hw _ (List.mem_of_getElem? (i := 71) rfl)) (hw _ (List.mem_of_getElem? (i := 73) rfl)) (hw _ (List.mem_of_getElem? (i := 72) rfl)) (by decide) pd_9 rfl rfl (Nat.le_of_ble_eq_true rfl) (hb hby at_293) (notFace_of_selects (args := #[]) (mvT hZ (hw _ (List.mem_of_getElem? (i := 73) rfl)))) (backOf (W := 0) (met_jeq l Z a0 hw [] z n0 o23 o22 o19 o18 (strL lB da db) (strL lA ca cb) _ O Sc A_o22 F_o23 F_o22 S_o19 S_o18) hZ (hw _ (List.mem_of_getElem? (i := 74) rfl)) (hw _ (List.mem_of_getElem? (i := 61) rfl)) (by decide) (by decide)) (by decide) (by decide) ?_
        intro T hT X
        show Go p e below _ (T.setTop (mkF m 296 #[.val (.long p0), .second, .val (.long p1), .second, .val (.long p2), .second, .val (.int p3), .val (.int lA), .val (.int ca), .val (.int cb), .val (.int lB), .val (.int (1 : Int32)), .val (.int da), .val (.int db), .val (.ref o18), .val (.ref o19), .val (.ref o20), .val (.ref o21), .val (.ref o22), .val (.ref o23), .val (.int kd), .val (.int (0 : Int32))] [(.int (f_jeq (strL lB da db) (strL lA ca cb)))]))
        refine Go.st (fun _ k => XS.iload X.here hx rfl (hb hby at_296) rfl k) ?_
        show Go p e below _ (T.setTop (mkF m 298 #[.val (.long p0), .second, .val (.long p1), .second, .val (.long p2), .second, .val (.int p3), .val (.int lA), .val (.int ca), .val (.int cb), .val (.int lB), .val (.int (1 : Int32)), .val (.int da), .val (.int db), .val (.ref o18), .val (.ref o19), .val (.ref o20), .val (.ref o21), .val (.ref o22), .val (.ref o23), .val (.int kd), .val (.int (0 : Int32))] [(.int (0 : Int32)), (.int (f_jeq (strL lB da db) (strL lA ca cb)))]))
        refine Go.st (fun _ k => XS.icmpNo X.here hx rfl (hb hby at_298) rfl (Jvm.Free.XT.ii_ne_f (own_jeq0S (own_3 hlA) (own_3 hlB) (own_m16 hca) (own_m16 hcb) (own_mx hda (own_m16 hca)) (own_mx hdb (own_m16 hcb)) (fun q => hc25 q.1) : (f_jeq (strL lB da db) (strL lA ca cb)) = (0 : Int32))) k) ?_
        show Go p e below _ (T.setTop (mkF m 301 #[.val (.long p0), .second, .val (.long p1), .second, .val (.long p2), .second, .val (.int p3), .val (.int lA), .val (.int ca), .val (.int cb), .val (.int lB), .val (.int (1 : Int32)), .val (.int da), .val (.int db), .val (.ref o18), .val (.ref o19), .val (.ref o20), .val (.ref o21), .val (.ref o22), .val (.ref o23), .val (.int kd), .val (.int (0 : Int32))] []))
        refine Go.st (fun _ k => XS.iconst X.here hx rfl (hb hby at_301) k) ?_
        show Go p e below _ (T.setTop (mkF m 302 #[.val (.long p0), .second, .val (.long p1), .second, .val (.long p2), .second, .val (.int p3), .val (.int lA), .val (.int ca), .val (.int cb), .val (.int lB), .val (.int (1 : Int32)), .val (.int da), .val (.int db), .val (.ref o18), .val (.ref o19), .val (.ref o20), .val (.ref o21), .val (.ref o22), .val (.ref o23), .val (.int kd), .val (.int (0 : Int32))] [(.int (1 : Int32))]))
        refine Go.st (fun _ k => XS.goto X.here hx rfl (pc0 := 302) (pc' := 306) rfl (hb hby at_302) (by decide) (by decide) k) ?_
        show Go p e below _ (T.setTop (mkF m 306 #[.val (.long p0), .second, .val (.long p1), .second, .val (.long p2), .second, .val (.int p3), .val (.int lA), .val (.int ca), .val (.int cb), .val (.int lB), .val (.int (1 : Int32)), .val (.int da), .val (.int db), .val (.ref o18), .val (.ref o19), .val (.ref o20), .val (.ref o21), .val (.ref o22), .val (.ref o23), .val (.int kd), .val (.int (0 : Int32))] [(.int (1 : Int32))]))
        refine Go.retH hEL H hZ X hx hlk hT hret (by decide) (riI (by simp)) (hb hby at_306) (by decide) (by decide) ?_
        exact ⟨rfl, N⟩
    · refine Go.st (fun _ k => XS.ifYes X.here hx rfl (pc0 := 234) (pc' := 307) rfl (hb hby at_234) rfl (Jvm.Free.XT.i0_ne_t hc24) (by decide) (by decide) k) ?_
      show Go p e below _ (T.setTop (mkF m 307 #[.val (.long p0), .second, .val (.long p1), .second, .val (.long p2), .second, .val (.int p3), .val (.int lA), .val (.int ca), .val (.int cb), .val (.int lB), .val (.int (1 : Int32)), .val (.int da), .val (.int db), .val (.ref o18), .val (.ref o19), .val (.ref o20), .val (.ref o21), .val (.ref o22), .val (.ref o23), .val (.int kd), .unset] []))
      refine Go.st (fun _ k => XS.iload X.here hx rfl (hb hby at_307) rfl k) ?_
      show Go p e below _ (T.setTop (mkF m 309 #[.val (.long p0), .second, .val (.long p1), .second, .val (.long p2), .second, .val (.int p3), .val (.int lA), .val (.int ca), .val (.int cb), .val (.int lB), .val (.int (1 : Int32)), .val (.int da), .val (.int db), .val (.ref o18), .val (.ref o19), .val (.ref o20), .val (.ref o21), .val (.ref o22), .val (.ref o23), .val (.int kd), .unset] [(.int kd)]))
      refine Go.st (fun _ k => XS.iconst X.here hx rfl (hb hby at_309) k) ?_
      show Go p e below _ (T.setTop (mkF m 310 #[.val (.long p0), .second, .val (.long p1), .second, .val (.long p2), .second, .val (.int p3), .val (.int lA), .val (.int ca), .val (.int cb), .val (.int lB), .val (.int (1 : Int32)), .val (.int da), .val (.int db), .val (.ref o18), .val (.ref o19), .val (.ref o20), .val (.ref o21), .val (.ref o22), .val (.ref o23), .val (.int kd), .unset] [(.int (1 : Int32)), (.int kd)]))
      by_cases hc32 : kd = (1 : Int32)
      · refine Go.st (fun _ k => XS.icmpNo X.here hx rfl (hb hby at_310) rfl (Jvm.Free.XT.ii_ne_f hc32) k) ?_
        show Go p e below _ (T.setTop (mkF m 313 #[.val (.long p0), .second, .val (.long p1), .second, .val (.long p2), .second, .val (.int p3), .val (.int lA), .val (.int ca), .val (.int cb), .val (.int lB), .val (.int (1 : Int32)), .val (.int da), .val (.int db), .val (.ref o18), .val (.ref o19), .val (.ref o20), .val (.ref o21), .val (.ref o22), .val (.ref o23), .val (.int kd), .unset] []))
        refine Go.st (fun _ k => XS.aload X.here hx rfl (hb hby at_313) rfl rfl k) ?_
        show Go p e below _ (T.setTop (mkF m 315 #[.val (.long p0), .second, .val (.long p1), .second, .val (.long p2), .second, .val (.int p3), .val (.int lA), .val (.int ca), .val (.int cb), .val (.int lB), .val (.int (1 : Int32)), .val (.int da), .val (.int db), .val (.ref o18), .val (.ref o19), .val (.ref o20), .val (.ref o21), .val (.ref o22), .val (.ref o23), .val (.int kd), .unset] [(.ref o22)]))
        refine Go.st (fun _ k => XS.aconstNull X.here hx rfl (hb hby at_315) k) ?_
        show Go p e below _ (T.setTop (mkF m 316 #[.val (.long p0), .second, .val (.long p1), .second, .val (.long p2), .second, .val (.int p3), .val (.int lA), .val (.int ca), .val (.int cb), .val (.int lB), .val (.int (1 : Int32)), .val (.int da), .val (.int db), .val (.ref o18), .val (.ref o19), .val (.ref o20), .val (.ref o21), .val (.ref o22), .val (.ref o23), .val (.int kd), .unset] [.null, (.ref o22)]))
        refine Go.virtV (K := "com/example/orgweave/orgweave/core/JsonValue") (z := (⟨"com/example/orgweave/orgweave/core/JsonValue", "equals", "(Ljava/lang/Object;)Z"⟩ : MethodName)) (argsL := [.null]) (rest := []) (W := 0) (w := (.int (0 : Int32))) X hx hZ hown (hml.trans rfl) hT A_o22 (hw _ (List.mem_of_getElem? (i := 70) rfl)) (hw _ (List.mem_of_getElem? (i := 71) rfl)) (hw _ (List.mem_of_getElem? (i := 73) rfl)) (hw _ (List.mem_of_getElem? (i := 72) rfl)) (by decide) pd_9 rfl rfl (Nat.le_of_ble_eq_true rfl) (hb hby at_316) (notFace_of_selects (args := #[]) (mvT hZ (hw _ (List.mem_of_getElem? (i := 73) rfl)))) (backOf (W := 0) (met_jeqN l Z a0 hw [] o22 _) hZ (hw _ (List.mem_of_getElem? (i := 74) rfl)) (hw _ (List.mem_of_getElem? (i := 61) rfl)) (by decide) (by decide)) (by decide) (by decide) ?_
        intro T hT X
        show Go p e below _ (T.setTop (mkF m 319 #[.val (.long p0), .second, .val (.long p1), .second, .val (.long p2), .second, .val (.int p3), .val (.int lA), .val (.int ca), .val (.int cb), .val (.int lB), .val (.int (1 : Int32)), .val (.int da), .val (.int db), .val (.ref o18), .val (.ref o19), .val (.ref o20), .val (.ref o21), .val (.ref o22), .val (.ref o23), .val (.int kd), .unset] [(.int (0 : Int32))]))
        refine Go.st (fun _ k => XS.ifNo X.here hx rfl (hb hby at_319) rfl (Jvm.Free.XT.i0_ne_f (by decide : (0 : Int32) = (0 : Int32))) k) ?_
        show Go p e below _ (T.setTop (mkF m 322 #[.val (.long p0), .second, .val (.long p1), .second, .val (.long p2), .second, .val (.int p3), .val (.int lA), .val (.int ca), .val (.int cb), .val (.int lB), .val (.int (1 : Int32)), .val (.int da), .val (.int db), .val (.ref o18), .val (.ref o19), .val (.ref o20), .val (.ref o21), .val (.ref o22), .val (.ref o23), .val (.int kd), .unset] []))
        refine Go.st (fun _ k => XS.iconst X.here hx rfl (hb hby at_322) k) ?_
        show Go p e below _ (T.setTop (mkF m 323 #[.val (.long p0), .second, .val (.long p1), .second, .val (.long p2), .second, .val (.int p3), .val (.int lA), .val (.int ca), .val (.int cb), .val (.int lB), .val (.int (1 : Int32)), .val (.int da), .val (.int db), .val (.ref o18), .val (.ref o19), .val (.ref o20), .val (.ref o21), .val (.ref o22), .val (.ref o23), .val (.int kd), .unset] [(.int (1 : Int32))]))
        refine Go.st (fun _ k => XS.goto X.here hx rfl (pc0 := 323) (pc' := 327) rfl (hb hby at_323) (by decide) (by decide) k) ?_
        show Go p e below _ (T.setTop (mkF m 327 #[.val (.long p0), .second, .val (.long p1), .second, .val (.long p2), .second, .val (.int p3), .val (.int lA), .val (.int ca), .val (.int cb), .val (.int lB), .val (.int (1 : Int32)), .val (.int da), .val (.int db), .val (.ref o18), .val (.ref o19), .val (.ref o20), .val (.ref o21), .val (.ref o22), .val (.ref o23), .val (.int kd), .unset] [(.int (1 : Int32))]))
        refine Go.retH hEL H hZ X hx hlk hT hret (by decide) (riI (by simp)) (hb hby at_327) (by decide) (by decide) ?_
        exact ⟨rfl, N⟩
      · refine Go.st (fun _ k => XS.icmpYes X.here hx rfl (pc0 := 310) (pc' := 328) rfl (hb hby at_310) rfl (Jvm.Free.XT.ii_ne_t hc32) (by decide) (by decide) k) ?_
        show Go p e below _ (T.setTop (mkF m 328 #[.val (.long p0), .second, .val (.long p1), .second, .val (.long p2), .second, .val (.int p3), .val (.int lA), .val (.int ca), .val (.int cb), .val (.int lB), .val (.int (1 : Int32)), .val (.int da), .val (.int db), .val (.ref o18), .val (.ref o19), .val (.ref o20), .val (.ref o21), .val (.ref o22), .val (.ref o23), .val (.int kd), .unset] []))
        refine Go.st (fun _ k => XS.iload X.here hx rfl (hb hby at_328) rfl k) ?_
        show Go p e below _ (T.setTop (mkF m 330 #[.val (.long p0), .second, .val (.long p1), .second, .val (.long p2), .second, .val (.int p3), .val (.int lA), .val (.int ca), .val (.int cb), .val (.int lB), .val (.int (1 : Int32)), .val (.int da), .val (.int db), .val (.ref o18), .val (.ref o19), .val (.ref o20), .val (.ref o21), .val (.ref o22), .val (.ref o23), .val (.int kd), .unset] [(.int kd)]))
        refine Go.st (fun _ k => XS.iconst X.here hx rfl (hb hby at_330) k) ?_
        show Go p e below _ (T.setTop (mkF m 331 #[.val (.long p0), .second, .val (.long p1), .second, .val (.long p2), .second, .val (.int p3), .val (.int lA), .val (.int ca), .val (.int cb), .val (.int lB), .val (.int (1 : Int32)), .val (.int da), .val (.int db), .val (.ref o18), .val (.ref o19), .val (.ref o20), .val (.ref o21), .val (.ref o22), .val (.ref o23), .val (.int kd), .unset] [(.int (2 : Int32)), (.int kd)]))
        by_cases hc33 : kd = (2 : Int32)
        · refine Go.st (fun _ k => XS.icmpNo X.here hx rfl (hb hby at_331) rfl (Jvm.Free.XT.ii_ne_f hc33) k) ?_
          show Go p e below _ (T.setTop (mkF m 334 #[.val (.long p0), .second, .val (.long p1), .second, .val (.long p2), .second, .val (.int p3), .val (.int lA), .val (.int ca), .val (.int cb), .val (.int lB), .val (.int (1 : Int32)), .val (.int da), .val (.int db), .val (.ref o18), .val (.ref o19), .val (.ref o20), .val (.ref o21), .val (.ref o22), .val (.ref o23), .val (.int kd), .unset] []))
          refine Go.st (fun _ k => XS.aload X.here hx rfl (hb hby at_334) rfl rfl k) ?_
          show Go p e below _ (T.setTop (mkF m 336 #[.val (.long p0), .second, .val (.long p1), .second, .val (.long p2), .second, .val (.int p3), .val (.int lA), .val (.int ca), .val (.int cb), .val (.int lB), .val (.int (1 : Int32)), .val (.int da), .val (.int db), .val (.ref o18), .val (.ref o19), .val (.ref o20), .val (.ref o21), .val (.ref o22), .val (.ref o23), .val (.int kd), .unset] [(.ref o18)]))
          refine Go.st (fun _ k => XS.astore X.here hx rfl (hb hby at_336) rfl rfl (l' := #[.val (.long p0), .second, .val (.long p1), .second, .val (.long p2), .second, .val (.int p3), .val (.int lA), .val (.int ca), .val (.int cb), .val (.int lB), .val (.int (1 : Int32)), .val (.int da), .val (.int db), .val (.ref o18), .val (.ref o19), .val (.ref o20), .val (.ref o21), .val (.ref o22), .val (.ref o23), .val (.int kd), .val (.ref o18)]) rfl k) ?_
          show Go p e below _ (T.setTop (mkF m 338 #[.val (.long p0), .second, .val (.long p1), .second, .val (.long p2), .second, .val (.int p3), .val (.int lA), .val (.int ca), .val (.int cb), .val (.int lB), .val (.int (1 : Int32)), .val (.int da), .val (.int db), .val (.ref o18), .val (.ref o19), .val (.ref o20), .val (.ref o21), .val (.ref o22), .val (.ref o23), .val (.int kd), .val (.ref o18)] []))
          refine Go.st (fun _ k => XS.aload X.here hx rfl (hb hby at_338) rfl rfl k) ?_
          show Go p e below _ (T.setTop (mkF m 340 #[.val (.long p0), .second, .val (.long p1), .second, .val (.long p2), .second, .val (.int p3), .val (.int lA), .val (.int ca), .val (.int cb), .val (.int lB), .val (.int (1 : Int32)), .val (.int da), .val (.int db), .val (.ref o18), .val (.ref o19), .val (.ref o20), .val (.ref o21), .val (.ref o22), .val (.ref o23), .val (.int kd), .val (.ref o18)] [(.ref o22)]))
          refine Go.st (fun _ k => XS.aload X.here hx rfl (hb hby at_340) rfl rfl k) ?_
          show Go p e below _ (T.setTop (mkF m 342 #[.val (.long p0), .second, .val (.long p1), .second, .val (.long p2), .second, .val (.int p3), .val (.int lA), .val (.int ca), .val (.int cb), .val (.int lB), .val (.int (1 : Int32)), .val (.int da), .val (.int db), .val (.ref o18), .val (.ref o19), .val (.ref o20), .val (.ref o21), .val (.ref o22), .val (.ref o23), .val (.int kd), .val (.ref o18)] [(.ref o18), (.ref o22)]))
          refine Go.virtV (K := "com/example/orgweave/orgweave/core/JsonValue") (z := (⟨"com/example/orgweave/orgweave/core/JsonValue", "equals", "(Ljava/lang/Object;)Z"⟩ : MethodName)) (argsL := [(.ref o18)]) (rest := []) (W := 0) (w := (.int (0 : Int32))) X hx hZ hown (hml.trans rfl) hT A_o22 (hw _ (List.mem_of_getElem? (i := 70) rfl)) (hw _ (List.mem_of_getElem? (i := 71) rfl)) (hw _ (List.mem_of_getElem? (i := 73) rfl)) (hw _ (List.mem_of_getElem? (i := 72) rfl)) (by decide) pd_9 rfl rfl (Nat.le_of_ble_eq_true rfl) (hb hby at_342) (notFace_of_selects (args := #[]) (mvT hZ (hw _ (List.mem_of_getElem? (i := 73) rfl)))) (backOf (W := 0) (met_jeqS l Z a0 hw [] o22 o18 _ S_o18.exa) hZ (hw _ (List.mem_of_getElem? (i := 74) rfl)) (hw _ (List.mem_of_getElem? (i := 61) rfl)) (by decide) (by decide)) (by decide) (by decide) ?_
          intro T hT X
          show Go p e below _ (T.setTop (mkF m 345 #[.val (.long p0), .second, .val (.long p1), .second, .val (.long p2), .second, .val (.int p3), .val (.int lA), .val (.int ca), .val (.int cb), .val (.int lB), .val (.int (1 : Int32)), .val (.int da), .val (.int db), .val (.ref o18), .val (.ref o19), .val (.ref o20), .val (.ref o21), .val (.ref o22), .val (.ref o23), .val (.int kd), .val (.ref o18)] [(.int (0 : Int32))]))
          refine Go.st (fun _ k => XS.ifNo X.here hx rfl (hb hby at_345) rfl (Jvm.Free.XT.i0_ne_f (by decide : (0 : Int32) = (0 : Int32))) k) ?_
          show Go p e below _ (T.setTop (mkF m 348 #[.val (.long p0), .second, .val (.long p1), .second, .val (.long p2), .second, .val (.int p3), .val (.int lA), .val (.int ca), .val (.int cb), .val (.int lB), .val (.int (1 : Int32)), .val (.int da), .val (.int db), .val (.ref o18), .val (.ref o19), .val (.ref o20), .val (.ref o21), .val (.ref o22), .val (.ref o23), .val (.int kd), .val (.ref o18)] []))
          refine Go.st (fun _ k => XS.iconst X.here hx rfl (hb hby at_348) k) ?_
          show Go p e below _ (T.setTop (mkF m 349 #[.val (.long p0), .second, .val (.long p1), .second, .val (.long p2), .second, .val (.int p3), .val (.int lA), .val (.int ca), .val (.int cb), .val (.int lB), .val (.int (1 : Int32)), .val (.int da), .val (.int db), .val (.ref o18), .val (.ref o19), .val (.ref o20), .val (.ref o21), .val (.ref o22), .val (.ref o23), .val (.int kd), .val (.ref o18)] [(.int (1 : Int32))]))
          refine Go.st (fun _ k => XS.goto X.here hx rfl (pc0 := 349) (pc' := 353) rfl (hb hby at_349) (by decide) (by decide) k) ?_
          show Go p e below _ (T.setTop (mkF m 353 #[.val (.long p0), .second, .val (.long p1), .second, .val (.long p2), .second, .val (.int p3), .val (.int lA), .val (.int ca), .val (.int cb), .val (.int lB), .val (.int (1 : Int32)), .val (.int da), .val (.int db), .val (.ref o18), .val (.ref o19), .val (.ref o20), .val (.ref o21), .val (.ref o22), .val (.ref o23), .val (.int kd), .val (.ref o18)] [(.int (1 : Int32))]))
          refine Go.retH hEL H hZ X hx hlk hT hret (by decide) (riI (by simp)) (hb hby at_353) (by decide) (by decide) ?_
          exact ⟨rfl, N⟩
        · refine Go.st (fun _ k => XS.icmpYes X.here hx rfl (pc0 := 331) (pc' := 354) rfl (hb hby at_331) rfl (Jvm.Free.XT.ii_ne_t hc33) (by decide) (by decide) k) ?_
          show Go p e below _ (T.setTop (mkF m 354 #[.val (.long p0), .second, .val (.long p1), .second, .val (.long p2), .second, .val (.int p3), .val (.int lA), .val (.int ca), .val (.int cb), .val (.int lB), .val (.int (1 : Int32)), .val (.int da), .val (.int db), .val (.ref o18), .val (.ref o19), .val (.ref o20), .val (.ref o21), .val (.ref o22), .val (.ref o23), .val (.int kd), .unset] []))
          refine Go.st (fun _ k => XS.aload X.here hx rfl (hb hby at_354) rfl rfl k) ?_
          show Go p e below _ (T.setTop (mkF m 356 #[.val (.long p0), .second, .val (.long p1), .second, .val (.long p2), .second, .val (.int p3), .val (.int lA), .val (.int ca), .val (.int cb), .val (.int lB), .val (.int (1 : Int32)), .val (.int da), .val (.int db), .val (.ref o18), .val (.ref o19), .val (.ref o20), .val (.ref o21), .val (.ref o22), .val (.ref o23), .val (.int kd), .unset] [(.ref o22)]))
          refine Go.st (fun _ k => XS.aload X.here hx rfl (hb hby at_356) rfl rfl k) ?_
          show Go p e below _ (T.setTop (mkF m 358 #[.val (.long p0), .second, .val (.long p1), .second, .val (.long p2), .second, .val (.int p3), .val (.int lA), .val (.int ca), .val (.int cb), .val (.int lB), .val (.int (1 : Int32)), .val (.int da), .val (.int db), .val (.ref o18), .val (.ref o19), .val (.ref o20), .val (.ref o21), .val (.ref o22), .val (.ref o23), .val (.int kd), .unset] [(.ref o22), (.ref o22)]))
          refine Go.virtV (K := "com/example/orgweave/orgweave/core/JsonValue") (z := (⟨"com/example/orgweave/orgweave/core/JsonValue", "equals", "(Ljava/lang/Object;)Z"⟩ : MethodName)) (argsL := [(.ref o22)]) (rest := []) (W := 0) (w := (.int (f_jeq (strL lA ca cb) (strL lA ca cb)))) X hx hZ hown (hml.trans rfl) hT A_o22 (hw _ (List.mem_of_getElem? (i := 70) rfl)) (hw _ (List.mem_of_getElem? (i := 71) rfl)) (hw _ (List.mem_of_getElem? (i := 73) rfl)) (hw _ (List.mem_of_getElem? (i := 72) rfl)) (by decide) pd_9 rfl rfl (Nat.le_of_ble_eq_true rfl) (hb hby at_358) (notFace_of_selects (args := #[]) (mvT hZ (hw _ (List.mem_of_getElem? (i := 73) rfl)))) (backOf (W := 0) (met_jeq l Z a0 hw [] z n0 o22 o22 o18 o18 (strL lA ca cb) (strL lA ca cb) _ O Sc A_o22 F_o22 F_o22 S_o18 S_o18) hZ (hw _ (List.mem_of_getElem? (i := 74) rfl)) (hw _ (List.mem_of_getElem? (i := 61) rfl)) (by decide) (by decide)) (by decide) (by decide) ?_
          intro T hT X
          show Go p e below _ (T.setTop (mkF m 361 #[.val (.long p0), .second, .val (.long p1), .second, .val (.long p2), .second, .val (.int p3), .val (.int lA), .val (.int ca), .val (.int cb), .val (.int lB), .val (.int (1 : Int32)), .val (.int da), .val (.int db), .val (.ref o18), .val (.ref o19), .val (.ref o20), .val (.ref o21), .val (.ref o22), .val (.ref o23), .val (.int kd), .unset] [(.int (f_jeq (strL lA ca cb) (strL lA ca cb)))]))
          refine Go.retH hEL H hZ X hx hlk hT hret (by rw [own_self]; decide) (riI (by simp)) (hb hby at_361) (by decide) (by decide) ?_
          exact ⟨by rw [own_self], N⟩
set_option maxRecDepth 65536 in
set_option maxHeartbeats 40000000 in
theorem comes_1 {Post : Tables → Env → Array Value → State → Outcome → State → Prop} (hpost : ∀ tb e args s v u, (limb_1_1.after args s (.returned v) u = true ∧ limb_1_2.after args s (.returned v) u = true) → ReturnedEndW s (.returned v) u (Jvm.fieldLocs frame_1_writes args s ++ Jvm.arrayLocs frame_1_arrays args s ++ Jvm.staticLocs frame_1_statics s) 48 1216 → Post tb e args s (.returned v) u) :
    ArmFor flags0 classFile x code maxLocals ret World_1 tables_1 room_1 Calls_1 rest_1 Pre_1 Post := by
  intro l hfl _ _ p e ha hc hk s m args below hf hA hF happ hP
  obtain ⟨hcalls, hrest, hpre⟩ := hP
  obtain ⟨-, -, -, hnamed, -, -, -, hat⟩ := (Spec.applies_iff hf).mp happ
  obtain ⟨hg, hn⟩ := and_e (Cond.before_iff.mp (show (Jvm.Cond.and given_1 narrow_1).before args s = true from hpre))
  obtain ⟨hcnt, hg⟩ := and_e hg
  obtain ⟨ha0, hg⟩ := and_e hg
  obtain ⟨ha1, hg⟩ := and_e hg
  obtain ⟨ha2, hg⟩ := and_e hg
  have ha3 := hg
  obtain ⟨w0, w1, w2, w3, rfl⟩ : ∃ w0 w1 w2 w3 : Value, args = #[w0, w1, w2, w3] := by
    have hs : args.size = 4 := by simpa [Cond.value, given_1] using hcnt
    obtain ⟨L⟩ := args
    match L, hs with
    | [w0, w1, w2, w3], _ => exact ⟨w0, w1, w2, w3, rfl⟩
  have hw := fun d (hd : d ∈ tables_1) => atoms_spec (ws := Jvm.Cond.code x code maxLocals ret :: tables_1) hat d (List.mem_cons_of_mem _ hd)
  obtain ⟨hsets, hown0⟩ := atoms_of _ (rest_1_c_eq ▸ (show rest_1_c.before _ s = true from hrest))
  obtain ⟨i0, e0⟩ := isL_v ha0
  obtain rfl : w0 = (.long i0) := Option.some.inj e0
  obtain ⟨i1, e1⟩ := isL_v ha1
  obtain rfl : w1 = (.long i1) := Option.some.inj e1
  obtain ⟨i2, e2⟩ := isL_v ha2
  obtain rfl : w2 = (.long i2) := Option.some.inj e2
  obtain ⟨i3, e3⟩ := is_v ha3
  obtain rfl : w3 = (.int i3) := Option.some.inj e3
  obtain ⟨iz, ez⟩ := is_v (Cond.before_iff.mp (hsets _ (List.mem_of_getElem? (i := 1) rfl)))
  have Sz : Sta s s.heap "java/lang/String" "COMPACT_STRINGS" "Z" (.int iz) := Sta.start ez (Or.inl (hsets _ (List.mem_of_getElem? (i := 0) rfl)))
  have nz : ¬ (iz = (0 : Int32)) := gotF (Cond.eq_ints ez (Term.int_eval (0))) (not_v (Cond.before_iff.mp (hsets _ (List.mem_of_getElem? (i := 2) rfl))))
  have Sc : Stat s iz := ⟨Sz, nz⟩
  have S16a : Sta s s.heap "java/lang/StringUTF16" "$assertionsDisabled" "Z" (.int 1) := Sta.start (eqv_i (Term.int_eval (1)) (Cond.before_iff.mp (hsets _ (List.mem_of_getElem? (i := 12) rfl)))) (Or.inl (hsets _ (List.mem_of_getElem? (i := 11) rfl)))
  have S16b : Sta s s.heap "java/lang/StringUTF16" "HI_BYTE_SHIFT" "I" (.int 0) := Sta.start (eqv_i (Term.int_eval (0)) (Cond.before_iff.mp (hsets _ (List.mem_of_getElem? (i := 15) rfl)))) (Or.inl (hsets _ (List.mem_of_getElem? (i := 14) rfl)))
  have S16c : Sta s s.heap "java/lang/StringUTF16" "LO_BYTE_SHIFT" "I" (.int 8) := Sta.start (eqv_i (Term.int_eval (8)) (Cond.before_iff.mp (hsets _ (List.mem_of_getElem? (i := 18) rfl)))) (Or.inl (hsets _ (List.mem_of_getElem? (i := 17) rfl)))
  have S16 : St16 s := ⟨S16a, S16b, S16c⟩
  have hCH : CHv s EL0 s.vm s.heap := CHv.start (own_EW hw) (fun q hq => hcalls.1 q hq) (hsets _ (List.mem_of_getElem? (i := 2) rfl)) (hw _ (List.mem_of_getElem? (i := 21) rfl)) (hw _ (List.mem_of_getElem? (i := 7) rfl))
  obtain ⟨n, o, h1, h2, h3, _, L, rfl, ⟨rfl, N⟩, -, hq⟩ := met_law l s _ hw tables_1 i0 i1 i2 i3 iz s.heap.size s.heap (Old.start s) Sc S16 p e ha hc hk s m _ below hf ((Spec.applies_iff_loose hf).mp happ).1 ⟨rfl, State.Warmed39.refl s, rfl, hCH⟩ trivial
  refine ⟨n, _, h1, h2, h3, hpost _ _ _ _ _ _ ⟨Cond.after_iff.mpr rfl, Cond.after_iff.mpr (eq_i res_at (Term.int_eval (1)) rfl)⟩ ⟨hq.1, hq.2.1, hq.2.2.1, (hq.2.2.2.sift fun y hy => Or.inr (N y hy)).mono (by decide) (by decide)⟩⟩
theorem main_1_1 : Claimed_1_1 := comes_1 fun _ _ _ _ _ _ h hF => ⟨h.1, hF⟩
theorem main_1_2 : Claimed_1_2 := comes_1 fun _ _ _ _ _ _ h hF => ⟨h.2, hF⟩
end Jvm.Pilot.@@N@@
namespace Jvm.Pilot.@@N@@
open Jvm Jvm.ClassFile Sem Op Lib Jvm.Free Jvm.Stand Jvm.Pilot.@@N@@.Jvm.D
/-! MADE BY PROGRAM (witnessworld.py) out of the Statement's table words and the real class files: 20 classes; the members and pool entries that the words name. The judged class is class 1, her method 2. -/
namespace start1
open Jvm.ClassFile
def u (s : String) : CpInfo := .utf8 (stringToUtf16 s)
/-- a pool by its gaps: so many unusable entries, then the entry; so many at the end -/
def gap : Nat → List CpInfo → List CpInfo
  | 0, r => r
  | n + 1, r => .unusable :: gap n r
def poolList (es : List (Nat × CpInfo)) (last : Nat) : List CpInfo := es.foldr (fun e r => gap e.1 (e.2 :: r)) (gap last [])
def pool (es : List (Nat × CpInfo)) (last : Nat) : Array CpInfo := ⟨poolList es last⟩
def fileOf (pool : Array CpInfo) (this : Nat) (attrs : Array Attribute := #[]) (ms : Array MethodInfo := #[]) (fl : Nat := 33) (sup : Nat := 0) (ifs : Array Nat := #[]) (fds : Array FieldInfo := #[]) : ClassFile where
  minorVersion := 0
  majorVersion := 65
  constantPool := pool
  accessFlags := fl
  thisClass := this
  superClass := sup
  interfaces := ifs
  fields := fds
  methods := ms
  attributes := attrs
def plain (name : String) (sup : Option ClassId) : Class where
  name := name
  kind := .ordinary
  loader := none
  accessFlags := 33
  super := sup
  interfaces := #[]
  cf := none
  fields := #[]
  methods := #[]
  instanceTypes := #[]
  staticTypes := #[]
  resolved := #[]
  callSites := []
  init := .initialized
  statics := none
  mirror := none

def pool0 : Array CpInfo := pool [(5, u "<init>"), (0, u "()V"), (1, .class_ 10), (1, u "java/lang/Object")] 113

def k0c0 : Code := { maxStack := 0, maxLocals := 1, code := object_method_1_code, exceptionTable := #[], attributes := #[] }
def k0m0 : Method := { name := "<init>", desc := "()V", sig := { parameters := [], returnType := none }, accessFlags := 1, code := some k0c0 }
/-- java/lang/Object -/
def k0 : Class := { plain "java/lang/Object" none with
  accessFlags := 33
  interfaces := #[]
  cf := some (fileOf pool0 8 #[] #[{ accessFlags := 1, nameIndex := 5, descriptorIndex := 6, attributes := #[] }] 33 0 #[] #[])
  fields := #[]
  methods := #[k0m0]
  instanceTypes := #[]
  staticTypes := #[]
  resolved := Array.replicate 124 none
  statics := none }

def pool1 : Array CpInfo := pool [(2, .class_ 4), (1, u "java/lang/Object"), (0, u "<init>"), (0, u "()V"), (0, .class_ 8), (0, u "java/lang/String"), (0, .methodref 7 10), (0, .nameAndType 5 11), (0, u "([C)V"), (0, .long 3), (1, .long 65535), (1, .methodref 17 18), (0, .class_ 19), (0, .nameAndType 20 21), (0, u "com/example/orgweave/orgweave/core/JsonValueEqualsPinLaw"), (0, u "str"), (0, u "(III)Ljava/lang/String;"), (0, .long 4095), (1, .class_ 25), (0, u "com/example/orgweave/orgweave/core/JsonValue"), (0, .methodref 24 27), (0, .nameAndType 5 28), (0, u "(Ljava/lang/String;Ljava/lang/String;)V"), (0, .methodref 24 30), (0, .nameAndType 31 32), (0, u "equals"), (0, u "(Ljava/lang/Object;)Z"), (3, u "law"), (0, u "(JJJI)Z")] 2

def k1m0 : Method := { name := "<init>", desc := "()V", sig := { parameters := [], returnType := none }, accessFlags := 2, code := none }
def k1c1 : Code := { maxStack := 3, maxLocals := 4, code := method_2_code, exceptionTable := #[], attributes := #[] }
def k1m1 : Method := { name := "str", desc := "(III)Ljava/lang/String;", sig := { parameters := [.int, .int, .int], returnType := some (.object "java/lang/String") }, accessFlags := 10, code := some k1c1 }
def k1c2 : Code := { maxStack := 6, maxLocals := 22, code := code, exceptionTable := #[], attributes := #[] }
def k1m2 : Method := { name := "law", desc := "(JJJI)Z", sig := { parameters := [.long, .long, .long, .int], returnType := some .boolean }, accessFlags := 9, code := some k1c2 }
/-- com/example/orgweave/orgweave/core/JsonValueEqualsPinLaw -/
def k1 : Class := { plain "com/example/orgweave/orgweave/core/JsonValueEqualsPinLaw" (some 0) with
  accessFlags := 49
  interfaces := #[]
  cf := some (fileOf pool1 17 #[] #[{ accessFlags := 2, nameIndex := 5, descriptorIndex := 6, attributes := #[] }, { accessFlags := 10, nameIndex := 20, descriptorIndex := 21, attributes := #[] }, { accessFlags := 9, nameIndex := 36, descriptorIndex := 37, attributes := #[] }] 49 2 #[] #[])
  fields := #[]
  methods := #[k1m0, k1m1, k1m2]
  instanceTypes := #[]
  staticTypes := #[]
  resolved := Array.replicate 40 none
  statics := none }

def pool2 : Array CpInfo := pool [(1, .class_ 2), (0, u "java/io/Serializable"), (0, .class_ 4), (0, u "java/lang/Object")] 2

/-- java/io/Serializable -/
def k2 : Class := { plain "java/io/Serializable" (some 0) with
  accessFlags := 1537
  interfaces := #[]
  cf := some (fileOf pool2 1 #[] #[] 1537 3 #[] #[])
  fields := #[]
  methods := #[]
  instanceTypes := #[]
  staticTypes := #[]
  resolved := Array.replicate 7 none
  statics := none }

def pool3 : Array CpInfo := pool [(1, .class_ 2), (0, u "java/lang/Comparable"), (0, .class_ 4), (0, u "java/lang/Object")] 7

/-- java/lang/Comparable -/
def k3 : Class := { plain "java/lang/Comparable" (some 0) with
  accessFlags := 1537
  interfaces := #[]
  cf := some (fileOf pool3 1 #[] #[] 1537 3 #[] #[])
  fields := #[]
  methods := #[]
  instanceTypes := #[]
  staticTypes := #[]
  resolved := Array.replicate 12 none
  statics := none }

def pool4 : Array CpInfo := pool [(2, .class_ 4), (1, u "java/lang/CharSequence"), (42, .class_ 48), (0, u "java/lang/CharSequence$1CodePointIterator"), (10, .class_ 60), (0, u "java/lang/CharSequence$1CharIterator"), (5, .class_ 67), (0, u "java/lang/Object")] 63

/-- java/lang/CharSequence -/
def k4 : Class := { plain "java/lang/CharSequence" (some 0) with
  accessFlags := 1537
  interfaces := #[]
  cf := some (fileOf pool4 2 #[.nestMembers #[47, 59]] #[] 1537 66 #[] #[])
  fields := #[]
  methods := #[]
  instanceTypes := #[]
  staticTypes := #[]
  resolved := Array.replicate 131 none
  statics := none }

def pool5 : Array CpInfo := pool [(1, .class_ 2), (0, u "java/lang/constant/Constable"), (0, .class_ 4), (0, u "java/lang/Object")] 6

/-- java/lang/constant/Constable -/
def k5 : Class := { plain "java/lang/constant/Constable" (some 0) with
  accessFlags := 1537
  interfaces := #[]
  cf := some (fileOf pool5 1 #[] #[] 1537 3 #[] #[])
  fields := #[]
  methods := #[]
  instanceTypes := #[]
  staticTypes := #[]
  resolved := Array.replicate 11 none
  statics := none }

def pool6 : Array CpInfo := pool [(1, .class_ 2), (0, u "java/lang/constant/ConstantDesc"), (0, .class_ 4), (0, u "java/lang/Object")] 32

/-- java/lang/constant/ConstantDesc -/
def k6 : Class := { plain "java/lang/constant/ConstantDesc" (some 0) with
  accessFlags := 1537
  interfaces := #[]
  cf := some (fileOf pool6 1 #[] #[] 1537 3 #[] #[])
  fields := #[]
  methods := #[]
  instanceTypes := #[]
  staticTypes := #[]
  resolved := Array.replicate 37 none
  statics := none }

def pool7 : Array CpInfo := pool [(1, .methodref 2 3), (0, .class_ 4), (0, .nameAndType 5 6), (0, u "java/lang/Object"), (0, u "<init>"), (0, u "()V"), (0, .string 8), (0, u ""), (0, .fieldref 10 11), (0, .class_ 12), (0, .nameAndType 13 14), (0, u "java/lang/String"), (0, u "value"), (0, u "[B"), (0, .fieldref 10 16), (0, .nameAndType 17 18), (0, u "coder"), (0, u "B"), (2, u "hash"), (0, u "I"), (2, u "hashIsZero"), (0, u "Z"), (0, .methodref 10 28), (0, .nameAndType 5 29), (0, u "([CIILjava/lang/Void;)V"), (8, .fieldref 10 39), (0, .nameAndType 40 26), (0, u "COMPACT_STRINGS"), (1, .class_ 44), (1, u "java/lang/StringUTF16"), (0, u "compress"), (1, .methodref 42 48), (0, .nameAndType 49 50), (0, u "coderFromArrayLen"), (0, u "([BI)B"), (56, .class_ 109), (1, u "java/lang/StringLatin1"), (67, .methodref 42 178), (0, .nameAndType 45 179), (0, u "([CII)[B"), (361, .methodref 107 542), (0, .nameAndType 543 544), (0, u "equals"), (0, u "([B[B)Z"), (28, u "(Ljava/lang/Object;)Z"), (1, .class_ 576), (0, u "java/lang/CharSequence"), (22, u "CASE_INSENSITIVE_ORDER"), (0, u "Ljava/util/Comparator;"), (409, u "([C)V"), (90, u "serialPersistentFields"), (0, u "[Ljava/io/ObjectStreamField;"), (0, .class_ 1104), (0, u "java/lang/String$CaseInsensitiveComparator"), (1, .class_ 1107), (0, u "java/io/Serializable"), (0, .class_ 1109), (0, u "java/lang/Comparable"), (0, .class_ 1111), (0, u "java/lang/constant/Constable"), (0, .class_ 1113), (0, u "java/lang/constant/ConstantDesc"), (2, u "serialVersionUID"), (0, u "J"), (3, u "REPL"), (0, u "C"), (2, u "LATIN1"), (1, u "UTF16")] 323

def k7m0 : Method := { name := "<init>", desc := "()V", sig := { parameters := [], returnType := none }, accessFlags := 1, code := none }
def k7c1 : Code := { maxStack := 5, maxLocals := 2, code := jdk_42_method_3_code, exceptionTable := #[], attributes := #[] }
def k7m1 : Method := { name := "<init>", desc := "([C)V", sig := { parameters := [(.array .char)], returnType := none }, accessFlags := 1, code := some k7c1 }
def k7c2 : Code := { maxStack := 2, maxLocals := 3, code := jdk_42_method_66_code, exceptionTable := #[], attributes := #[] }
def k7m2 : Method := { name := "equals", desc := "(Ljava/lang/Object;)Z", sig := { parameters := [(.object "java/lang/Object")], returnType := some .boolean }, accessFlags := 1, code := some k7c2 }
def k7c3 : Code := { maxStack := 4, maxLocals := 6, code := jdk_42_method_149_code, exceptionTable := #[], attributes := #[] }
def k7m3 : Method := { name := "<init>", desc := "([CIILjava/lang/Void;)V", sig := { parameters := [(.array .char), .int, .int, (.object "java/lang/Void")], returnType := none }, accessFlags := 2, code := some k7c3 }
/-- java/lang/String -/
def k7 : Class := { plain "java/lang/String" (some 0) with
  accessFlags := 49
  interfaces := #[2, 3, 4, 5, 6]
  cf := some (fileOf pool7 10 #[.nestMembers #[1103]] #[{ accessFlags := 1, nameIndex := 5, descriptorIndex := 6, attributes := #[] }, { accessFlags := 1, nameIndex := 5, descriptorIndex := 1010, attributes := #[] }, { accessFlags := 1, nameIndex := 543, descriptorIndex := 573, attributes := #[] }, { accessFlags := 2, nameIndex := 5, descriptorIndex := 29, attributes := #[] }] 49 2 #[1106, 1108, 575, 1110, 1112] #[{ accessFlags := 18, nameIndex := 13, descriptorIndex := 14, attributes := #[] }, { accessFlags := 18, nameIndex := 17, descriptorIndex := 18, attributes := #[] }, { accessFlags := 2, nameIndex := 21, descriptorIndex := 22, attributes := #[] }, { accessFlags := 2, nameIndex := 25, descriptorIndex := 26, attributes := #[] }, { accessFlags := 26, nameIndex := 1116, descriptorIndex := 1117, attributes := #[] }, { accessFlags := 24, nameIndex := 40, descriptorIndex := 26, attributes := #[] }, { accessFlags := 26, nameIndex := 1101, descriptorIndex := 1102, attributes := #[] }, { accessFlags := 26, nameIndex := 1121, descriptorIndex := 1122, attributes := #[] }, { accessFlags := 25, nameIndex := 599, descriptorIndex := 600, attributes := #[] }, { accessFlags := 24, nameIndex := 1125, descriptorIndex := 18, attributes := #[] }, { accessFlags := 24, nameIndex := 1127, descriptorIndex := 18, attributes := #[] }])
  fields := #[{ name := "value", type := (.array .byte), accessFlags := 18, slot := 0, constantValue := 0 }, { name := "coder", type := .byte, accessFlags := 18, slot := 1, constantValue := 0 }, { name := "hash", type := .int, accessFlags := 2, slot := 2, constantValue := 0 }, { name := "hashIsZero", type := .boolean, accessFlags := 2, slot := 3, constantValue := 0 }, { name := "serialVersionUID", type := .long, accessFlags := 26, slot := 0, constantValue := 0 }, { name := "COMPACT_STRINGS", type := .boolean, accessFlags := 24, slot := 1, constantValue := 0 }, { name := "serialPersistentFields", type := (.array (.object "java/io/ObjectStreamField")), accessFlags := 26, slot := 2, constantValue := 0 }, { name := "REPL", type := .char, accessFlags := 26, slot := 3, constantValue := 0 }, { name := "CASE_INSENSITIVE_ORDER", type := (.object "java/util/Comparator"), accessFlags := 25, slot := 4, constantValue := 0 }, { name := "LATIN1", type := .byte, accessFlags := 24, slot := 5, constantValue := 0 }, { name := "UTF16", type := .byte, accessFlags := 24, slot := 6, constantValue := 0 }]
  methods := #[k7m0, k7m1, k7m2, k7m3]
  instanceTypes := #[(.array .byte), .byte, .int, .boolean]
  staticTypes := #[.long, .boolean, (.array (.object "java/io/ObjectStreamField")), .char, (.object "java/util/Comparator"), .byte, .byte]
  resolved := Array.replicate 1451 none
  statics := some 0 }

def pool8 : Array CpInfo := pool [(6, .class_ 8), (1, u "java/lang/Object"), (0, u "<init>"), (0, u "()V"), (0, .methodref 12 13), (0, .class_ 14), (0, .nameAndType 15 16), (0, u "java/lang/StringUTF16"), (0, u "newBytesLength"), (0, u "(I)I"), (3, .integer 1073741823), (23, .fieldref 12 45), (0, .nameAndType 46 47), (0, u "$assertionsDisabled"), (0, u "Z"), (11, .fieldref 12 60), (0, .nameAndType 61 62), (0, u "HI_BYTE_SHIFT"), (0, u "I"), (0, .fieldref 12 64), (0, .nameAndType 65 62), (0, u "LO_BYTE_SHIFT"), (5, .methodref 12 72), (0, .nameAndType 73 74), (0, u "getChar"), (0, u "([BI)C"), (32, .methodref 12 108), (0, .nameAndType 109 110), (0, u "newBytesFor"), (0, u "(I)[B"), (0, .methodref 12 112), (0, .nameAndType 113 114), (0, u "putChar"), (0, u "([BII)V"), (0, .methodref 12 116), (0, .nameAndType 117 118), (0, u "compress"), (0, u "([CI[BII)I"), (0, .methodref 12 120), (0, .nameAndType 121 122), (0, u "toBytes"), (0, u "([CII)[B"), (138, u "coderFromArrayLen"), (0, u "([BI)B"), (106, .class_ 371), (1, u "java/lang/StringUTF16$LinesSpliterator"), (58, u "MAX_LENGTH"), (196, .class_ 628), (0, u "java/lang/StringUTF16$CodePointsSpliterator"), (0, .class_ 630), (0, u "java/lang/StringUTF16$CharsSpliterator")] 4

def k8m0 : Method := { name := "<init>", desc := "()V", sig := { parameters := [], returnType := none }, accessFlags := 0, code := none }
def k8c1 : Code := { maxStack := 1, maxLocals := 1, code := jdk_52_method_2_code, exceptionTable := #[], attributes := #[] }
def k8m1 : Method := { name := "newBytesFor", desc := "(I)[B", sig := { parameters := [.int], returnType := some (.array .byte) }, accessFlags := 9, code := some k8c1 }
def k8c2 : Code := { maxStack := 4, maxLocals := 1, code := jdk_52_method_3_code, exceptionTable := #[], attributes := #[] }
def k8m2 : Method := { name := "newBytesLength", desc := "(I)I", sig := { parameters := [.int], returnType := some .int }, accessFlags := 9, code := some k8c2 }
def k8c3 : Code := { maxStack := 4, maxLocals := 3, code := jdk_52_method_4_code, exceptionTable := #[], attributes := #[] }
def k8m3 : Method := { name := "putChar", desc := "([BII)V", sig := { parameters := [(.array .byte), .int, .int], returnType := none }, accessFlags := 8, code := some k8c3 }
def k8c4 : Code := { maxStack := 3, maxLocals := 2, code := jdk_52_method_5_code, exceptionTable := #[], attributes := #[] }
def k8m4 : Method := { name := "getChar", desc := "([BI)C", sig := { parameters := [(.array .byte), .int], returnType := some .char }, accessFlags := 8, code := some k8c4 }
def k8c5 : Code := { maxStack := 4, maxLocals := 5, code := jdk_52_method_14_code, exceptionTable := #[], attributes := #[] }
def k8m5 : Method := { name := "toBytes", desc := "([CII)[B", sig := { parameters := [(.array .char), .int, .int], returnType := some (.array .byte) }, accessFlags := 9, code := some k8c5 }
def k8c6 : Code := { maxStack := 2, maxLocals := 2, code := jdk_52_method_15_code, exceptionTable := #[], attributes := #[] }
def k8m6 : Method := { name := "coderFromArrayLen", desc := "([BI)B", sig := { parameters := [(.array .byte), .int], returnType := some .byte }, accessFlags := 8, code := some k8c6 }
def k8c7 : Code := { maxStack := 5, maxLocals := 6, code := jdk_52_method_16_code, exceptionTable := #[], attributes := #[] }
def k8m7 : Method := { name := "compress", desc := "([CII)[B", sig := { parameters := [(.array .char), .int, .int], returnType := some (.array .byte) }, accessFlags := 9, code := some k8c7 }
def k8c8 : Code := { maxStack := 3, maxLocals := 7, code := jdk_52_method_21_code, exceptionTable := #[], attributes := #[] }
def k8m8 : Method := { name := "compress", desc := "([CI[BII)I", sig := { parameters := [(.array .char), .int, (.array .byte), .int, .int], returnType := some .int }, accessFlags := 9, code := some k8c8 }
/-- java/lang/StringUTF16 -/
def k8 : Class := { plain "java/lang/StringUTF16" (some 0) with
  accessFlags := 48
  interfaces := #[]
  cf := some (fileOf pool8 12 #[.nestMembers #[627, 629, 369]] #[{ accessFlags := 0, nameIndex := 9, descriptorIndex := 10, attributes := #[] }, { accessFlags := 9, nameIndex := 109, descriptorIndex := 110, attributes := #[] }, { accessFlags := 9, nameIndex := 15, descriptorIndex := 16, attributes := #[] }, { accessFlags := 8, nameIndex := 113, descriptorIndex := 114, attributes := #[] }, { accessFlags := 8, nameIndex := 73, descriptorIndex := 74, attributes := #[] }, { accessFlags := 9, nameIndex := 121, descriptorIndex := 122, attributes := #[] }, { accessFlags := 8, nameIndex := 261, descriptorIndex := 262, attributes := #[] }, { accessFlags := 9, nameIndex := 117, descriptorIndex := 122, attributes := #[] }, { accessFlags := 9, nameIndex := 117, descriptorIndex := 118, attributes := #[] }] 48 6 #[] #[{ accessFlags := 26, nameIndex := 61, descriptorIndex := 62, attributes := #[] }, { accessFlags := 26, nameIndex := 65, descriptorIndex := 62, attributes := #[] }, { accessFlags := 24, nameIndex := 430, descriptorIndex := 62, attributes := #[] }, { accessFlags := 4120, nameIndex := 46, descriptorIndex := 47, attributes := #[] }])
  fields := #[{ name := "HI_BYTE_SHIFT", type := .int, accessFlags := 26, slot := 0, constantValue := 0 }, { name := "LO_BYTE_SHIFT", type := .int, accessFlags := 26, slot := 1, constantValue := 0 }, { name := "MAX_LENGTH", type := .int, accessFlags := 24, slot := 2, constantValue := 0 }, { name := "$assertionsDisabled", type := .boolean, accessFlags := 4120, slot := 3, constantValue := 0 }]
  methods := #[k8m0, k8m1, k8m2, k8m3, k8m4, k8m5, k8m6, k8m7, k8m8]
  instanceTypes := #[]
  staticTypes := #[.int, .int, .int, .boolean]
  resolved := Array.replicate 635 none
  statics := some 1 }

def pool9 : Array CpInfo := pool [(1, .methodref 2 3), (0, .class_ 4), (0, .nameAndType 5 6), (0, u "java/lang/Object"), (0, u "<init>"), (0, u "()V"), (0, .fieldref 8 9), (0, .class_ 10), (0, .nameAndType 11 12), (0, u "com/example/orgweave/orgweave/core/JsonValue"), (0, u "text"), (0, u "Ljava/lang/String;"), (0, .fieldref 8 14), (0, .nameAndType 15 12), (0, u "key"), (33, .methodref 50 51), (0, .class_ 52), (0, .nameAndType 53 54), (0, u "java/lang/String"), (0, u "equals"), (0, u "(Ljava/lang/Object;)Z"), (12, .class_ 68), (0, u "java/lang/Comparable"), (0, u "(Ljava/lang/String;Ljava/lang/String;)V")] 14

def k9c0 : Code := { maxStack := 2, maxLocals := 3, code := prog_21_method_1_code, exceptionTable := #[], attributes := #[] }
def k9m0 : Method := { name := "<init>", desc := "(Ljava/lang/String;Ljava/lang/String;)V", sig := { parameters := [(.object "java/lang/String"), (.object "java/lang/String")], returnType := none }, accessFlags := 1, code := some k9c0 }
def k9c1 : Code := { maxStack := 2, maxLocals := 3, code := prog_21_method_4_code, exceptionTable := #[], attributes := #[] }
def k9m1 : Method := { name := "equals", desc := "(Ljava/lang/Object;)Z", sig := { parameters := [(.object "java/lang/Object")], returnType := some .boolean }, accessFlags := 1, code := some k9c1 }
/-- com/example/orgweave/orgweave/core/JsonValue -/
def k9 : Class := { plain "com/example/orgweave/orgweave/core/JsonValue" (some 0) with
  accessFlags := 49
  interfaces := #[3]
  cf := some (fileOf pool9 8 #[] #[{ accessFlags := 1, nameIndex := 5, descriptorIndex := 69, attributes := #[] }, { accessFlags := 1, nameIndex := 53, descriptorIndex := 54, attributes := #[] }] 49 2 #[67] #[{ accessFlags := 18, nameIndex := 11, descriptorIndex := 12, attributes := #[] }, { accessFlags := 18, nameIndex := 15, descriptorIndex := 12, attributes := #[] }])
  fields := #[{ name := "text", type := (.object "java/lang/String"), accessFlags := 18, slot := 0, constantValue := 0 }, { name := "key", type := (.object "java/lang/String"), accessFlags := 18, slot := 1, constantValue := 0 }]
  methods := #[k9m0, k9m1]
  instanceTypes := #[(.object "java/lang/String"), (.object "java/lang/String")]
  staticTypes := #[]
  resolved := Array.replicate 84 none
  statics := none }

def pool10 : Array CpInfo := pool [(4, .class_ 6), (1, u "java/lang/Object"), (0, u "<init>"), (0, u "()V"), (5, .class_ 16), (1, u "java/lang/StringLatin1"), (104, u "$assertionsDisabled"), (0, u "Z"), (98, .class_ 223), (1, u "java/lang/StringLatin1$LinesSpliterator"), (57, u "equals"), (0, u "([B[B)Z"), (107, .class_ 391), (0, u "java/lang/StringLatin1$CharsSpliterator")] 3

def k10m0 : Method := { name := "<init>", desc := "()V", sig := { parameters := [], returnType := none }, accessFlags := 0, code := none }
def k10c1 : Code := { maxStack := 3, maxLocals := 3, code := jdk_43_method_13_code, exceptionTable := #[], attributes := #[] }
def k10m1 : Method := { name := "equals", desc := "([B[B)Z", sig := { parameters := [(.array .byte), (.array .byte)], returnType := some .boolean }, accessFlags := 9, code := some k10c1 }
/-- java/lang/StringLatin1 -/
def k10 : Class := { plain "java/lang/StringLatin1" (some 0) with
  accessFlags := 48
  interfaces := #[]
  cf := some (fileOf pool10 14 #[.nestMembers #[390, 221]] #[{ accessFlags := 0, nameIndex := 7, descriptorIndex := 8, attributes := #[] }, { accessFlags := 9, nameIndex := 281, descriptorIndex := 282, attributes := #[] }] 48 4 #[] #[{ accessFlags := 4120, nameIndex := 121, descriptorIndex := 122, attributes := #[] }])
  fields := #[{ name := "$assertionsDisabled", type := .boolean, accessFlags := 4120, slot := 0, constantValue := 0 }]
  methods := #[k10m0, k10m1]
  instanceTypes := #[]
  staticTypes := #[.boolean]
  resolved := Array.replicate 395 none
  statics := none }

def pool11 : Array CpInfo := pool [(2, .class_ 4), (1, u "java/lang/Object"), (0, u "<init>"), (0, u "()V"), (17, .class_ 26), (1, u "jdk/internal/util/Preconditions"), (28, .class_ 56), (0, u "jdk/internal/util/Preconditions$4"), (57, .class_ 115), (0, u "jdk/internal/util/Preconditions$1"), (7, u "SIOOBE_FORMATTER"), (0, u "Ljava/util/function/BiFunction;"), (0, .class_ 126), (0, u "jdk/internal/util/Preconditions$2"), (3, u "AIOOBE_FORMATTER"), (0, .class_ 132), (0, u "jdk/internal/util/Preconditions$3"), (3, u "IOOBE_FORMATTER")] 57

def k11m0 : Method := { name := "<init>", desc := "()V", sig := { parameters := [], returnType := none }, accessFlags := 1, code := none }
/-- jdk/internal/util/Preconditions -/
def k11 : Class := { plain "jdk/internal/util/Preconditions" (some 0) with
  accessFlags := 33
  interfaces := #[]
  cf := some (fileOf pool11 24 #[.nestMembers #[55, 131, 125, 114]] #[{ accessFlags := 1, nameIndex := 5, descriptorIndex := 6, attributes := #[] }] 33 2 #[] #[{ accessFlags := 25, nameIndex := 123, descriptorIndex := 124, attributes := #[] }, { accessFlags := 25, nameIndex := 130, descriptorIndex := 124, attributes := #[] }, { accessFlags := 25, nameIndex := 136, descriptorIndex := 124, attributes := #[] }])
  fields := #[{ name := "SIOOBE_FORMATTER", type := (.object "java/util/function/BiFunction"), accessFlags := 25, slot := 0, constantValue := 0 }, { name := "AIOOBE_FORMATTER", type := (.object "java/util/function/BiFunction"), accessFlags := 25, slot := 1, constantValue := 0 }, { name := "IOOBE_FORMATTER", type := (.object "java/util/function/BiFunction"), accessFlags := 25, slot := 2, constantValue := 0 }]
  methods := #[k11m0]
  instanceTypes := #[]
  staticTypes := #[(.object "java/util/function/BiFunction"), (.object "java/util/function/BiFunction"), (.object "java/util/function/BiFunction")]
  resolved := Array.replicate 194 none
  statics := some 2 }

def pool12 : Array CpInfo := pool [(9, u "<init>"), (6, .class_ 18), (1, u "java/lang/Object"), (0, u "()V"), (1, .class_ 23), (1, u "jdk/internal/util/ArraysSupport"), (0, u "LOG2_ARRAY_LONG_INDEX_SCALE"), (0, u "I"), (2, u "U"), (0, u "Ljdk/internal/misc/Unsafe;"), (8, u "BIG_ENDIAN"), (0, u "Z"), (8, u "LOG2_BYTE_BIT_SIZE"), (4, u "LOG2_ARRAY_INT_INDEX_SCALE"), (54, u "JLA"), (0, u "Ljdk/internal/access/JavaLangAccess;"), (11, u "LOG2_ARRAY_BOOLEAN_INDEX_SCALE"), (9, u "LOG2_ARRAY_BYTE_INDEX_SCALE"), (5, u "LOG2_ARRAY_CHAR_INDEX_SCALE"), (5, u "LOG2_ARRAY_SHORT_INDEX_SCALE"), (18, u "LOG2_ARRAY_FLOAT_INDEX_SCALE"), (24, u "LOG2_ARRAY_DOUBLE_INDEX_SCALE"), (89, u "T_BOOLEAN"), (2, u "T_CHAR"), (1, u "T_FLOAT"), (1, u "T_DOUBLE"), (1, u "T_BYTE"), (1, u "T_SHORT"), (1, u "T_INT"), (1, u "T_LONG"), (1, u "SOFT_MAX_ARRAY_LENGTH")] 83

def k12m0 : Method := { name := "<init>", desc := "()V", sig := { parameters := [], returnType := none }, accessFlags := 2, code := none }
/-- jdk/internal/util/ArraysSupport -/
def k12 : Class := { plain "jdk/internal/util/ArraysSupport" (some 0) with
  accessFlags := 33
  interfaces := #[]
  cf := some (fileOf pool12 21 #[] #[{ accessFlags := 2, nameIndex := 9, descriptorIndex := 19, attributes := #[] }] 33 16 #[] #[{ accessFlags := 24, nameIndex := 28, descriptorIndex := 29, attributes := #[] }, { accessFlags := 26, nameIndex := 38, descriptorIndex := 39, attributes := #[] }, { accessFlags := 25, nameIndex := 121, descriptorIndex := 25, attributes := #[] }, { accessFlags := 25, nameIndex := 131, descriptorIndex := 25, attributes := #[] }, { accessFlags := 25, nameIndex := 137, descriptorIndex := 25, attributes := #[] }, { accessFlags := 25, nameIndex := 143, descriptorIndex := 25, attributes := #[] }, { accessFlags := 25, nameIndex := 53, descriptorIndex := 25, attributes := #[] }, { accessFlags := 25, nameIndex := 24, descriptorIndex := 25, attributes := #[] }, { accessFlags := 25, nameIndex := 162, descriptorIndex := 25, attributes := #[] }, { accessFlags := 25, nameIndex := 187, descriptorIndex := 25, attributes := #[] }, { accessFlags := 26, nameIndex := 48, descriptorIndex := 25, attributes := #[] }, { accessFlags := 25, nameIndex := 277, descriptorIndex := 25, attributes := #[] }, { accessFlags := 25, nameIndex := 280, descriptorIndex := 25, attributes := #[] }, { accessFlags := 25, nameIndex := 282, descriptorIndex := 25, attributes := #[] }, { accessFlags := 25, nameIndex := 284, descriptorIndex := 25, attributes := #[] }, { accessFlags := 25, nameIndex := 286, descriptorIndex := 25, attributes := #[] }, { accessFlags := 25, nameIndex := 288, descriptorIndex := 25, attributes := #[] }, { accessFlags := 25, nameIndex := 290, descriptorIndex := 25, attributes := #[] }, { accessFlags := 25, nameIndex := 292, descriptorIndex := 25, attributes := #[] }, { accessFlags := 26, nameIndex := 108, descriptorIndex := 109, attributes := #[] }, { accessFlags := 25, nameIndex := 294, descriptorIndex := 25, attributes := #[] }])
  fields := #[{ name := "U", type := (.object "jdk/internal/misc/Unsafe"), accessFlags := 24, slot := 0, constantValue := 0 }, { name := "BIG_ENDIAN", type := .boolean, accessFlags := 26, slot := 1, constantValue := 0 }, { name := "LOG2_ARRAY_BOOLEAN_INDEX_SCALE", type := .int, accessFlags := 25, slot := 2, constantValue := 0 }, { name := "LOG2_ARRAY_BYTE_INDEX_SCALE", type := .int, accessFlags := 25, slot := 3, constantValue := 0 }, { name := "LOG2_ARRAY_CHAR_INDEX_SCALE", type := .int, accessFlags := 25, slot := 4, constantValue := 0 }, { name := "LOG2_ARRAY_SHORT_INDEX_SCALE", type := .int, accessFlags := 25, slot := 5, constantValue := 0 }, { name := "LOG2_ARRAY_INT_INDEX_SCALE", type := .int, accessFlags := 25, slot := 6, constantValue := 0 }, { name := "LOG2_ARRAY_LONG_INDEX_SCALE", type := .int, accessFlags := 25, slot := 7, constantValue := 0 }, { name := "LOG2_ARRAY_FLOAT_INDEX_SCALE", type := .int, accessFlags := 25, slot := 8, constantValue := 0 }, { name := "LOG2_ARRAY_DOUBLE_INDEX_SCALE", type := .int, accessFlags := 25, slot := 9, constantValue := 0 }, { name := "LOG2_BYTE_BIT_SIZE", type := .int, accessFlags := 26, slot := 10, constantValue := 0 }, { name := "T_BOOLEAN", type := .int, accessFlags := 25, slot := 11, constantValue := 0 }, { name := "T_CHAR", type := .int, accessFlags := 25, slot := 12, constantValue := 0 }, { name := "T_FLOAT", type := .int, accessFlags := 25, slot := 13, constantValue := 0 }, { name := "T_DOUBLE", type := .int, accessFlags := 25, slot := 14, constantValue := 0 }, { name := "T_BYTE", type := .int, accessFlags := 25, slot := 15, constantValue := 0 }, { name := "T_SHORT", type := .int, accessFlags := 25, slot := 16, constantValue := 0 }, { name := "T_INT", type := .int, accessFlags := 25, slot := 17, constantValue := 0 }, { name := "T_LONG", type := .int, accessFlags := 25, slot := 18, constantValue := 0 }, { name := "JLA", type := (.object "jdk/internal/access/JavaLangAccess"), accessFlags := 26, slot := 19, constantValue := 0 }, { name := "SOFT_MAX_ARRAY_LENGTH", type := .int, accessFlags := 25, slot := 20, constantValue := 0 }]
  methods := #[k12m0]
  instanceTypes := #[]
  staticTypes := #[(.object "jdk/internal/misc/Unsafe"), .boolean, .int, .int, .int, .int, .int, .int, .int, .int, .int, .int, .int, .int, .int, .int, .int, .int, .int, (.object "jdk/internal/access/JavaLangAccess"), .int]
  resolved := Array.replicate 378 none
  statics := none }

def pool13 : Array CpInfo := pool [(1, u "java/lang/Cloneable"), (0, .class_ 1), (0, u "java/lang/Object"), (0, .class_ 3)] 3

/-- java/lang/Cloneable -/
def k13 : Class := { plain "java/lang/Cloneable" (some 0) with
  accessFlags := 1537
  interfaces := #[]
  cf := some (fileOf pool13 2 #[] #[] 1537 4 #[] #[])
  fields := #[]
  methods := #[]
  instanceTypes := #[]
  staticTypes := #[]
  resolved := Array.replicate 8 none
  statics := none }

/-- the primitive byte -/
def k14 : Class := { plain "byte" none with kind := .primitive 'B', accessFlags := 0x411 }
/-- [B -/
def k15 : Class := { plain "[B" (some 0) with kind := .array 14 .byte, interfaces := #[13, 2], accessFlags := 1041 }

/-- the primitive char -/
def k16 : Class := { plain "char" none with kind := .primitive 'C', accessFlags := 0x411 }
/-- [C -/
def k17 : Class := { plain "[C" (some 0) with kind := .array 16 .char, interfaces := #[13, 2], accessFlags := 1041 }

/-- the primitive int -/
def k18 : Class := { plain "int" none with kind := .primitive 'I', accessFlags := 0x411 }
/-- [I -/
def k19 : Class := { plain "[I" (some 0) with kind := .array 18 .int, interfaces := #[13, 2], accessFlags := 1041 }

def heap : Heap := #[{ cls := 7, slots := #[.long 0, .int 1, .null, .int 0, .null, .int 0, .int 0], vm := .statics 7 },
  { cls := 8, slots := #[.int 0, .int 8, .int 0, .int 1], vm := .statics 8 },
  { cls := 11, slots := #[.null, .null, .null], vm := .statics 11 }]
def classes : Array Class := #[k0, k1, k2, k3, k4, k5, k6, k7, k8, k9, k10, k11, k12, k13, k14, k15, k16, k17, k18, k19]
def interned : List (Array UInt16 × Addr) := []
def slotsUsed : Nat := 14
def theMethod : MethodId := ⟨1, 2⟩
def args0 : Array Value := #[.long 5, .long 5, .long 5, .int 5]
def aboutOver (below : List Frame) : State where
  vm := { classes := classes, interned := interned.toArray }
  heap := heap
  slotsUsed := slotsUsed
  threads := #[{ frames := .invoking theMethod args0 :: below }]
def below0 : List Frame := [.native { method := ⟨0, 0⟩, args := #[] }]
def about1 : State := aboutOver below0
def p0 : Program := .bare "" "" ""
def e0 : Env := launch0.env 0 0 0
theorem w_frames : about1.frames = Frame.invoking theMethod args0 :: below0 := rfl
set_option maxRecDepth 65536 in
theorem w_args : argsFit about1.vm theMethod args0 = true := by decide +kernel
set_option maxRecDepth 65536 in
theorem w_heap : heapFits about1 = true := by decide +kernel
set_option maxRecDepth 65536 in
theorem w_runnable : about1.curStatus? = some .runnable := by decide +kernel
set_option maxRecDepth 65536 in
theorem w_alone : about1.alone = true := by decide +kernel
set_option maxRecDepth 65536 in
theorem w_named : about1.methodNamed? x = some theMethod := by decide +kernel
set_option maxRecDepth 65536 in
theorem w_hears : about1.hears theMethod below0 = true := by decide +kernel
set_option maxRecDepth 65536 in
theorem w_ripe : about1.ripe theMethod args0 below0 = true := by decide +kernel
theorem w_running : about1.status = .running := rfl
set_option maxRecDepth 65536 in
theorem w_room : about1.hasRoom e0.platform room_1 = true :=
  launch0.hasRoom_least _ room_1 (by decide +kernel) (by decide +kernel) (by decide +kernel) (by decide +kernel) (by decide +kernel) (by decide +kernel)
theorem allAtoms_all (ts : List Jvm.Cond) (a : Array Jvm.Value) (st : Jvm.State) : (allAtoms ts).before a st = ts.all (fun c => c.before a st) := by
  induction ts with
  | nil => rfl
  | cons c t ih =>
    show (Jvm.Cond.and c (allAtoms t)).before a st = _
    rw [Jvm.Cond.before_and, ih, List.all_cons]
def words1 : List Jvm.Cond := Jvm.Cond.code x code maxLocals ret :: tables_1
/-- a 'code' word, met by the world's own term for the bytes: nothing is compared byte by byte -/
theorem code_word {y : MethodName} {bytes : ByteArray} {mx : Nat} {rt : Option FieldType} {a : Array Value} {s : State} {m : MethodId} {meth : Method} {c : Code} (h1 : s.methodNamed? y = some m) (h2 : s.vm.method? m = some meth) (h3 : meth.code = some c) (h4 : c.code = bytes)
    (h5 : (c.maxLocals == mx && c.exceptionTable.isEmpty && decide (c.maxStack ≤ mostOperands) && decide (meth.sig.returnType = rt) && !meth.locks && decide (parseMethodDescriptor y.desc = some meth.sig)) = true) : (Jvm.Cond.code y bytes mx rt).before a s = true := by
  simp only [Bool.and_eq_true, beq_iff_eq, Bool.not_eq_true', decide_eq_true_eq] at h5
  obtain ⟨⟨⟨⟨⟨g1, g2⟩, g3⟩, g4⟩, g5⟩, g6⟩ := h5
  simp [Cond.before, Cond.holds, Cond.value, h1, h2, h3, h4, g1, g2, g3, g4, g5, g6]
def isCode : Jvm.Cond → Bool
  | .code _ _ _ _ => true
  | _ => false
theorem all_split {L : List Jvm.Cond} {P : Jvm.Cond → Bool} (h1 : L.all (fun c => isCode c || P c) = true) (h2 : ∀ c ∈ L.filter isCode, P c = true) : L.all P = true := by
  refine List.all_eq_true.mpr fun c hc => ?_
  have h := List.all_eq_true.mp h1 c hc
  rcases Bool.eq_false_or_eq_true (isCode c) with hi | hi
  · exact h2 c (List.mem_filter.mpr ⟨hc, hi⟩)
  · simpa [hi] using h
set_option maxRecDepth 65536 in
theorem w_c0 : (Jvm.Cond.code x code maxLocals ret).before args0 about1 = true := code_word (m := ⟨1, 2⟩) (meth := k1m2) (c := k1c2) (by decide +kernel) rfl rfl rfl (by decide +kernel)
set_option maxRecDepth 65536 in
theorem w_c1 : (Jvm.Cond.code ({ cls := "com/example/orgweave/orgweave/core/JsonValueEqualsPinLaw", name := "str", desc := "(III)Ljava/lang/String;" } : Jvm.MethodName) method_2_code (4 : Nat) (Option.some (Jvm.ClassFile.FieldType.object "java/lang/String"))).before args0 about1 = true := code_word (m := ⟨1, 1⟩) (meth := k1m1) (c := k1c1) (by decide +kernel) rfl rfl rfl (by decide +kernel)
set_option maxRecDepth 65536 in
theorem w_c2 : (Jvm.Cond.code ({ cls := "java/lang/String", name := "<init>", desc := "([C)V" } : Jvm.MethodName) jdk_42_method_3_code (2 : Nat) (Option.none : Option Jvm.ClassFile.FieldType)).before args0 about1 = true := code_word (m := ⟨7, 1⟩) (meth := k7m1) (c := k7c1) (by decide +kernel) rfl rfl rfl (by decide +kernel)
set_option maxRecDepth 65536 in
theorem w_c3 : (Jvm.Cond.code ({ cls := "java/lang/String", name := "<init>", desc := "([CIILjava/lang/Void;)V" } : Jvm.MethodName) jdk_42_method_149_code (6 : Nat) (Option.none : Option Jvm.ClassFile.FieldType)).before args0 about1 = true := code_word (m := ⟨7, 3⟩) (meth := k7m3) (c := k7c3) (by decide +kernel) rfl rfl rfl (by decide +kernel)
set_option maxRecDepth 65536 in
theorem w_c4 : (Jvm.Cond.code ({ cls := "java/lang/Object", name := "<init>", desc := "()V" } : Jvm.MethodName) object_method_1_code (1 : Nat) (Option.none : Option Jvm.ClassFile.FieldType)).before args0 about1 = true := code_word (m := ⟨0, 0⟩) (meth := k0m0) (c := k0c0) (by decide +kernel) rfl rfl rfl (by decide +kernel)
set_option maxRecDepth 65536 in
theorem w_c5 : (Jvm.Cond.code ({ cls := "java/lang/StringUTF16", name := "compress", desc := "([CII)[B" } : Jvm.MethodName) jdk_52_method_16_code (6 : Nat) (Option.some (Jvm.ClassFile.FieldType.array Jvm.ClassFile.FieldType.byte))).before args0 about1 = true := code_word (m := ⟨8, 7⟩) (meth := k8m7) (c := k8c7) (by decide +kernel) rfl rfl rfl (by decide +kernel)
set_option maxRecDepth 65536 in
theorem w_c6 : (Jvm.Cond.code ({ cls := "java/lang/StringUTF16", name := "compress", desc := "([CI[BII)I" } : Jvm.MethodName) jdk_52_method_21_code (7 : Nat) (Option.some Jvm.ClassFile.FieldType.int)).before args0 about1 = true := code_word (m := ⟨8, 8⟩) (meth := k8m8) (c := k8c8) (by decide +kernel) rfl rfl rfl (by decide +kernel)
set_option maxRecDepth 65536 in
theorem w_c7 : (Jvm.Cond.code ({ cls := "java/lang/StringUTF16", name := "coderFromArrayLen", desc := "([BI)B" } : Jvm.MethodName) jdk_52_method_15_code (2 : Nat) (Option.some Jvm.ClassFile.FieldType.byte)).before args0 about1 = true := code_word (m := ⟨8, 6⟩) (meth := k8m6) (c := k8c6) (by decide +kernel) rfl rfl rfl (by decide +kernel)
set_option maxRecDepth 65536 in
theorem w_c8 : (Jvm.Cond.code ({ cls := "java/lang/StringUTF16", name := "toBytes", desc := "([CII)[B" } : Jvm.MethodName) jdk_52_method_14_code (5 : Nat) (Option.some (Jvm.ClassFile.FieldType.array Jvm.ClassFile.FieldType.byte))).before args0 about1 = true := code_word (m := ⟨8, 5⟩) (meth := k8m5) (c := k8c5) (by decide +kernel) rfl rfl rfl (by decide +kernel)
set_option maxRecDepth 65536 in
theorem w_c9 : (Jvm.Cond.code ({ cls := "java/lang/StringUTF16", name := "newBytesFor", desc := "(I)[B" } : Jvm.MethodName) jdk_52_method_2_code (1 : Nat) (Option.some (Jvm.ClassFile.FieldType.array Jvm.ClassFile.FieldType.byte))).before args0 about1 = true := code_word (m := ⟨8, 1⟩) (meth := k8m1) (c := k8c1) (by decide +kernel) rfl rfl rfl (by decide +kernel)
set_option maxRecDepth 65536 in
theorem w_c10 : (Jvm.Cond.code ({ cls := "java/lang/StringUTF16", name := "newBytesLength", desc := "(I)I" } : Jvm.MethodName) jdk_52_method_3_code (1 : Nat) (Option.some Jvm.ClassFile.FieldType.int)).before args0 about1 = true := code_word (m := ⟨8, 2⟩) (meth := k8m2) (c := k8c2) (by decide +kernel) rfl rfl rfl (by decide +kernel)
set_option maxRecDepth 65536 in
theorem w_c11 : (Jvm.Cond.code ({ cls := "java/lang/StringUTF16", name := "putChar", desc := "([BII)V" } : Jvm.MethodName) jdk_52_method_4_code (3 : Nat) (Option.none : Option Jvm.ClassFile.FieldType)).before args0 about1 = true := code_word (m := ⟨8, 3⟩) (meth := k8m3) (c := k8c3) (by decide +kernel) rfl rfl rfl (by decide +kernel)
set_option maxRecDepth 65536 in
theorem w_c12 : (Jvm.Cond.code ({ cls := "java/lang/StringUTF16", name := "getChar", desc := "([BI)C" } : Jvm.MethodName) jdk_52_method_5_code (2 : Nat) (Option.some Jvm.ClassFile.FieldType.char)).before args0 about1 = true := code_word (m := ⟨8, 4⟩) (meth := k8m4) (c := k8c4) (by decide +kernel) rfl rfl rfl (by decide +kernel)
set_option maxRecDepth 65536 in
theorem w_c13 : (Jvm.Cond.code ({ cls := "com/example/orgweave/orgweave/core/JsonValue", name := "<init>", desc := "(Ljava/lang/String;Ljava/lang/String;)V" } : Jvm.MethodName) prog_21_method_1_code (3 : Nat) (Option.none : Option Jvm.ClassFile.FieldType)).before args0 about1 = true := code_word (m := ⟨9, 0⟩) (meth := k9m0) (c := k9c0) (by decide +kernel) rfl rfl rfl (by decide +kernel)
set_option maxRecDepth 65536 in
theorem w_c14 : (Jvm.Cond.code ({ cls := "com/example/orgweave/orgweave/core/JsonValue", name := "equals", desc := "(Ljava/lang/Object;)Z" } : Jvm.MethodName) prog_21_method_4_code (3 : Nat) (Option.some Jvm.ClassFile.FieldType.boolean)).before args0 about1 = true := code_word (m := ⟨9, 1⟩) (meth := k9m1) (c := k9c1) (by decide +kernel) rfl rfl rfl (by decide +kernel)
set_option maxRecDepth 65536 in
theorem w_c15 : (Jvm.Cond.code ({ cls := "java/lang/String", name := "equals", desc := "(Ljava/lang/Object;)Z" } : Jvm.MethodName) jdk_42_method_66_code (3 : Nat) (Option.some Jvm.ClassFile.FieldType.boolean)).before args0 about1 = true := code_word (m := ⟨7, 2⟩) (meth := k7m2) (c := k7c2) (by decide +kernel) rfl rfl rfl (by decide +kernel)
set_option maxRecDepth 65536 in
theorem w_c16 : (Jvm.Cond.code ({ cls := "java/lang/StringLatin1", name := "equals", desc := "([B[B)Z" } : Jvm.MethodName) jdk_43_method_13_code (3 : Nat) (Option.some Jvm.ClassFile.FieldType.boolean)).before args0 about1 = true := code_word (m := ⟨10, 1⟩) (meth := k10m1) (c := k10c1) (by decide +kernel) rfl rfl rfl (by decide +kernel)
def codes1 : List Jvm.Cond := [Jvm.Cond.code x code maxLocals ret, Jvm.Cond.code ({ cls := "com/example/orgweave/orgweave/core/JsonValueEqualsPinLaw", name := "str", desc := "(III)Ljava/lang/String;" } : Jvm.MethodName) method_2_code (4 : Nat) (Option.some (Jvm.ClassFile.FieldType.object "java/lang/String")), Jvm.Cond.code ({ cls := "java/lang/String", name := "<init>", desc := "([C)V" } : Jvm.MethodName) jdk_42_method_3_code (2 : Nat) (Option.none : Option Jvm.ClassFile.FieldType), Jvm.Cond.code ({ cls := "java/lang/String", name := "<init>", desc := "([CIILjava/lang/Void;)V" } : Jvm.MethodName) jdk_42_method_149_code (6 : Nat) (Option.none : Option Jvm.ClassFile.FieldType), Jvm.Cond.code ({ cls := "java/lang/Object", name := "<init>", desc := "()V" } : Jvm.MethodName) object_method_1_code (1 : Nat) (Option.none : Option Jvm.ClassFile.FieldType), Jvm.Cond.code ({ cls := "java/lang/StringUTF16", name := "compress", desc := "([CII)[B" } : Jvm.MethodName) jdk_52_method_16_code (6 : Nat) (Option.some (Jvm.ClassFile.FieldType.array Jvm.ClassFile.FieldType.byte)), Jvm.Cond.code ({ cls := "java/lang/StringUTF16", name := "compress", desc := "([CI[BII)I" } : Jvm.MethodName) jdk_52_method_21_code (7 : Nat) (Option.some Jvm.ClassFile.FieldType.int), Jvm.Cond.code ({ cls := "java/lang/StringUTF16", name := "coderFromArrayLen", desc := "([BI)B" } : Jvm.MethodName) jdk_52_method_15_code (2 : Nat) (Option.some Jvm.ClassFile.FieldType.byte), Jvm.Cond.code ({ cls := "java/lang/StringUTF16", name := "toBytes", desc := "([CII)[B" } : Jvm.MethodName) jdk_52_method_14_code (5 : Nat) (Option.some (Jvm.ClassFile.FieldType.array Jvm.ClassFile.FieldType.byte)), Jvm.Cond.code ({ cls := "java/lang/StringUTF16", name := "newBytesFor", desc := "(I)[B" } : Jvm.MethodName) jdk_52_method_2_code (1 : Nat) (Option.some (Jvm.ClassFile.FieldType.array Jvm.ClassFile.FieldType.byte)), Jvm.Cond.code ({ cls := "java/lang/StringUTF16", name := "newBytesLength", desc := "(I)I" } : Jvm.MethodName) jdk_52_method_3_code (1 : Nat) (Option.some Jvm.ClassFile.FieldType.int), Jvm.Cond.code ({ cls := "java/lang/StringUTF16", name := "putChar", desc := "([BII)V" } : Jvm.MethodName) jdk_52_method_4_code (3 : Nat) (Option.none : Option Jvm.ClassFile.FieldType), Jvm.Cond.code ({ cls := "java/lang/StringUTF16", name := "getChar", desc := "([BI)C" } : Jvm.MethodName) jdk_52_method_5_code (2 : Nat) (Option.some Jvm.ClassFile.FieldType.char), Jvm.Cond.code ({ cls := "com/example/orgweave/orgweave/core/JsonValue", name := "<init>", desc := "(Ljava/lang/String;Ljava/lang/String;)V" } : Jvm.MethodName) prog_21_method_1_code (3 : Nat) (Option.none : Option Jvm.ClassFile.FieldType), Jvm.Cond.code ({ cls := "com/example/orgweave/orgweave/core/JsonValue", name := "equals", desc := "(Ljava/lang/Object;)Z" } : Jvm.MethodName) prog_21_method_4_code (3 : Nat) (Option.some Jvm.ClassFile.FieldType.boolean), Jvm.Cond.code ({ cls := "java/lang/String", name := "equals", desc := "(Ljava/lang/Object;)Z" } : Jvm.MethodName) jdk_42_method_66_code (3 : Nat) (Option.some Jvm.ClassFile.FieldType.boolean), Jvm.Cond.code ({ cls := "java/lang/StringLatin1", name := "equals", desc := "([B[B)Z" } : Jvm.MethodName) jdk_43_method_13_code (3 : Nat) (Option.some Jvm.ClassFile.FieldType.boolean)]
set_option maxRecDepth 65536 in
theorem codes_eq : words1.filter isCode = codes1 := rfl
theorem w_codes : ∀ c ∈ words1.filter isCode, c.before args0 about1 = true := by
  rw [codes_eq]
  intro c hc
  simp only [codes1, List.mem_cons, List.not_mem_nil, or_false] at hc
  rcases hc with rfl | rfl | rfl | rfl | rfl | rfl | rfl | rfl | rfl | rfl | rfl | rfl | rfl | rfl | rfl | rfl | rfl
  · exact w_c0
  · exact w_c1
  · exact w_c2
  · exact w_c3
  · exact w_c4
  · exact w_c5
  · exact w_c6
  · exact w_c7
  · exact w_c8
  · exact w_c9
  · exact w_c10
  · exact w_c11
  · exact w_c12
  · exact w_c13
  · exact w_c14
  · exact w_c15
  · exact w_c16
set_option maxRecDepth 65536 in
theorem w_t1 : (words1.take 24).all (fun c => isCode c || c.before args0 about1) = true := by decide +kernel
set_option maxRecDepth 65536 in
theorem w_t2 : ((words1.drop 24).take 24).all (fun c => isCode c || c.before args0 about1) = true := by decide +kernel
set_option maxRecDepth 65536 in
theorem w_t3 : (((words1.drop 24).drop 24).take 24).all (fun c => isCode c || c.before args0 about1) = true := by decide +kernel
set_option maxRecDepth 65536 in
theorem w_t4 : (((words1.drop 24).drop 24).drop 24).all (fun c => isCode c || c.before args0 about1) = true := by decide +kernel
theorem w_tables : (allAtoms (Jvm.Cond.code x code maxLocals ret :: tables_1)).before args0 about1 = true := by
  rw [allAtoms_all]
  show words1.all (fun c => c.before args0 about1) = true
  refine all_split ?_ w_codes
  rw [← List.take_append_drop 24 words1, List.all_append, w_t1, ← List.take_append_drop 24 (words1.drop 24), List.all_append, w_t2, ← List.take_append_drop 24 ((words1.drop 24).drop 24), List.all_append, w_t3, w_t4]
  rfl
set_option maxRecDepth 65536 in
theorem w_rest : rest_1_c.before args0 about1 = true := by decide +kernel
set_option maxRecDepth 65536 in
theorem w_case : (Jvm.Cond.and given_1 narrow_1).before args0 about1 = true := by decide +kernel
set_option maxRecDepth 65536 in
theorem w_consts : constsHeld consts_1 about1 := Jvm.Lit.constsHeldB_iff.mp (by decide +kernel)
theorem w_applies : (headSpec (Jvm.Cond.code x code maxLocals ret :: tables_1) room_1).applies x e0.platform about1 = true :=
  (Spec.applies_iff w_frames).mpr ⟨w_running, w_runnable, w_alone, w_named, w_hears, w_ripe, w_room, w_tables⟩
theorem atStart : AtStart classFile x code maxLocals ret World_1 tables_1 room_1 Calls_1 rest_1 Pre_1 launch0 p0 e0 about1 theMethod args0 below0 :=
  ⟨lists_1, trivial, launch0.admits_env _ _ _, launch0.least_env, fairChoices_fair.cas, fairChoices_fair.clock, w_frames, w_args, w_heap, w_applies, ⟨w_consts, trivial⟩, w_rest, w_case⟩
end start1
theorem witness_1 : WitnessClaimed_1 := ⟨start1.p0, start1.e0, start1.about1, start1.theMethod, start1.args0, start1.below0, start1.atStart⟩
end Jvm.Pilot.@@N@@
