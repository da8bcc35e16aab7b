import JvmDerived
import JvmDerived.Pilot.@@N@@Statement
import JvmDerived.Pilot.@@N@@Code
set_option linter.unusedVariables false
set_option linter.unusedSimpArgs false
namespace Jvm.Pilot.@@N@@
open Jvm Jvm.ClassFile Sem Op Lib Jvm.Free Jvm.Stand Jvm.LawKit Jvm.RoadKit Bundle Jvm.Pilot.@@N@@.Jvm.D
section OwnKit
variable {p : Program} {l : Launch} {e : Env} {R : Room} {s : State} {m : MethodId} {args : Array Value} {below : List Frame} {meth : Method} {c : Code} {T : State} {locs : List Loc} {cells slots : Nat} {Z : State} {a0 : Array Value} {h h' h0 : Heap}
/-- the rest of the body's run, from A on: it ends, and E holds there -/
def own_Go (p : Program) (e : Env) (below : List Frame) (E : Outcome → State → Prop) (A : State) : Prop :=
  ∃ s₂ o, Steps p.tables e below A s₂ ∧ s₂.status = .running ∧ Ended s₂ below o ∧ E o s₂
theorem own_go {E : Outcome → State → Prop} {A B : State} (k : ∀ t, Steps p.tables e below A t → Steps p.tables e below B t) (g : own_Go p e below E A) : own_Go p e below E B := by
  obtain ⟨s₂, o, h1, h2⟩ := g
  exact ⟨s₂, o, k _ h1, h2⟩
theorem own_goT {E : Outcome → State → Prop} {A B : State} (k : Steps p.tables e below B A) (g : own_Go p e below E A) : own_Go p e below E B := own_go (fun _ q => k.trans q) g
/-- what a body leaves -/
def own_Out (s : State) (Q : Option Value → Heap → List Loc → Prop) (C S : Nat) (o : Outcome) (U : State) : Prop :=
  ∃ v L, o = .returned v ∧ Q v U.heap L ∧ FrameEnd s o U L C S
/-- a body's contract: called with as' over the heap h0 it returns, and Q holds of what it returns, of the heap that it leaves and of the places that it wrote -/
def own_Con (l : Launch) (Z : State) (y : MethodName) (bytes : ByteArray) (maxL : Nat) (ret : Option FieldType) (rm : Room) (as' : Array Value) (h0 : Heap) (Q : Option Value → Heap → List Loc → Prop) (ws : List Jvm.Cond) : Prop :=
  MetFree l y (head1 (Jvm.Cond.code y bytes maxL ret :: ws) rm) (fun a U => a = as' ∧ Z.Warmed39 U.vm ∧ U.heap = h0) (fun _ _ _ _ _ => True) (fun _ U o U' => ∃ v L, o = .returned v ∧ Q v U'.heap L ∧ FrameEnd U o U' L rm.cells rm.slots)
theorem own_con {y : MethodName} {bytes : ByteArray} {maxL : Nat} {ret : Option FieldType} {rm : Room} {as' : Array Value} {Q : Option Value → Heap → List Loc → Prop} {ws : List Jvm.Cond} {F : MethodId → JFrame} (hpn : plainFor y = true) (hef : ∀ m, entryFrame m as' maxL = F m)
    (H : ∀ (p : Program) (e : Env) (s : State) (m : MethodId) (below : List Frame) (meth : Method) (c : Code) (T : State), Stand p l e rm s m as' below meth c T [] 0 0 → p.tables.exec = Jvm.exec → c.code = bytes → c.maxLocals = maxL → Z.Warmed39 s.vm → s.vm.findClass y.cls = some m.cls → meth.name = y.name →
      meth.sig.returnType = ret → meth.locks = false → T.heap = h0 → own_Go p e below (own_Out s Q rm.cells rm.slots) (T.setTop (F m))) :
    own_Con l Z y bytes maxL ret rm as' h0 Q ws := by
  refine MetFree.of_bodySF hpn hisR ?_
  intro p e s m args below meth c s₁ Bd hml0 hP hK
  obtain ⟨rfl, hZ, hh⟩ := hP
  have k := H p e s m below meth c s₁ (Stand.of_body Bd) Bd.exec Bd.bytes hml0 hZ (findClass_of_methodNamed Bd.named) (name_of_methodNamed Bd.named Bd.method).1 Bd.returns Bd.notSynchronized (by rw [← hh, Bd.state]; rfl)
  rw [← hef m] at k
  exact k
theorem own_Con.mono {y : MethodName} {bytes : ByteArray} {maxL : Nat} {ret : Option FieldType} {rm : Room} {as' : Array Value} {Q Q' : Option Value → Heap → List Loc → Prop} {ws : List Jvm.Cond} (H : own_Con l Z y bytes maxL ret rm as' h0 Q ws) (k : ∀ v h L, Q v h L → Q' v h L) : own_Con l Z y bytes maxL ret rm as' h0 Q' ws := by
  intro p e ha hc hk s m args below hf happ hP hK
  obtain ⟨n, o, g1, g2, g3, v, L, g4, g5, g6⟩ := H p e ha hc hk s m args below hf happ hP hK
  exact ⟨n, o, g1, g2, g3, v, L, g4, k _ _ _ g5, g6⟩
/-! leaving -/
theorem own_iret (X : Stand p l e R s m args below meth c T locs cells slots) (hx : p.tables.exec = Jvm.exec) (hlk : meth.locks = false) {t : FieldType} (hret : meth.sig.returnType = some t) (hti : t = .int ∨ t = .boolean ∨ t = .byte ∨ t = .char ∨ t = .short) {pc : Nat} {Ls : Array Slot} {z : Int32} (hn : narrow t (.int z) = .int z)
    (hd : decode c.code pc = .ok (.ireturn, 1)) {Q : Option Value → Heap → List Loc → Prop} {C S : Nat} (hC : cells ≤ C) (hS : slots ≤ S) (hq : Q (some (.int z)) T.heap locs) : own_Go p e below (own_Out s Q C S) (T.setTop (mkF m pc Ls [.int z])) := by
  obtain ⟨fs, hr, hrun, hended, hW, hsame⟩ := X.leave (v := some (.int z)) (fun h => by rw [hret] at h; cases h)
  exact ⟨_, _, X.ireturnOut hx hret hn hti hd hr, hrun, hended, _, _, rfl, hq, ⟨_, rfl⟩, hW, hsame.mono hC hS⟩
theorem own_lret (X : Stand p l e R s m args below meth c T locs cells slots) (hx : p.tables.exec = Jvm.exec) (hlk : meth.locks = false) (hret : meth.sig.returnType = some .long) {pc : Nat} {Ls : Array Slot} {z : Int64}
    (hd : decode c.code pc = .ok (.lreturn, 1)) {Q : Option Value → Heap → List Loc → Prop} {C S : Nat} (hC : cells ≤ C) (hS : slots ≤ S) (hq : Q (some (.long z)) T.heap locs) : own_Go p e below (own_Out s Q C S) (T.setTop (mkF m pc Ls [.long z])) := by
  obtain ⟨fs, hr, hrun, hended, hW, hsame⟩ := X.leave (v := some (.long z)) (fun h => by rw [hret] at h; cases h)
  exact ⟨_, _, X.lreturnOut hx hret hd hr, hrun, hended, _, _, rfl, hq, ⟨_, rfl⟩, hW, hsame.mono hC hS⟩
theorem own_aret (X : Stand p l e R s m args below meth c T locs cells slots) (hx : p.tables.exec = Jvm.exec) (hlk : meth.locks = false) {t : FieldType} (hret : meth.sig.returnType = some t) (ht : t.isReference = true) {pc : Nat} {Ls : Array Slot} {w : Value} (hw : w.isRef = true)
    (hd : decode c.code pc = .ok (.areturn, 1)) {Q : Option Value → Heap → List Loc → Prop} {C S : Nat} (hC : cells ≤ C) (hS : slots ≤ S) (hq : Q (some w) T.heap locs) : own_Go p e below (own_Out s Q C S) (T.setTop (mkF m pc Ls [w])) := by
  obtain ⟨fs, hr, hrun, hended, hW, hsame⟩ := X.leave (v := some w) (fun h => by rw [hret] at h; cases h)
  exact ⟨_, _, X.areturnOut hx hw hret ht hd hr, hrun, hended, _, _, rfl, hq, ⟨_, rfl⟩, hW, hsame.mono hC hS⟩
theorem own_vret (X : Stand p l e R s m args below meth c T locs cells slots) (hx : p.tables.exec = Jvm.exec) (hlk : meth.locks = false) (hret : meth.sig.returnType = none) {pc : Nat} {Ls : Array Slot}
    (hd : decode c.code pc = .ok (.return_, 1)) {Q : Option Value → Heap → List Loc → Prop} {C S : Nat} (hC : cells ≤ C) (hS : slots ≤ S) (hq : Q none T.heap locs) : own_Go p e below (own_Out s Q C S) (T.setTop (mkF m pc Ls [])) := by
  obtain ⟨fs, hr, hrun, hended, hW, hsame⟩ := X.leave (v := none) (fun _ => rfl)
  exact ⟨_, _, X.returnOut hx hret hd hr, hrun, hended, _, _, rfl, hq, ⟨_, rfl⟩, hW, hsame.mono hC hS⟩
/-! a body that leaves the heap alone -/
def own_PQ (h0 : Heap) (w : Value) (v : Option Value) (h : Heap) (L : List Loc) : Prop := v = some w ∧ h = h0 ∧ L = []
theorem own_iteI {C : Prop} [Decidable C] {a b : Int32} {k n : Nat} {A : State} (h1 : C → own_Go p e below (own_Out s (own_PQ h0 (.int a)) k n) A) (h2 : ¬ C → own_Go p e below (own_Out s (own_PQ h0 (.int b)) k n) A) : own_Go p e below (own_Out s (own_PQ h0 (.int (if C then a else b))) k n) A := by
  by_cases q : C
  · rw [if_pos q]; exact h1 q
  · rw [if_neg q]; exact h2 q
theorem own_iteL {C : Prop} [Decidable C] {a b : Int64} {k n : Nat} {A : State} (h1 : C → own_Go p e below (own_Out s (own_PQ h0 (.long a)) k n) A) (h2 : ¬ C → own_Go p e below (own_Out s (own_PQ h0 (.long b)) k n) A) : own_Go p e below (own_Out s (own_PQ h0 (.long (if C then a else b))) k n) A := by
  by_cases q : C
  · rw [if_pos q]; exact h1 q
  · rw [if_neg q]; exact h2 q
/-! calls -/
theorem own_callS (X : Stand p l e R s m args below meth c T locs cells slots) (hx : p.tables.exec = Jvm.exec) (hZ : Z.Warmed39 s.vm) {own : String} (hown : s.vm.findClass own = some m.cls) {index : Nat} {y : MethodName} {bytes : ByteArray} {maxL : Nat} {ret : Option FieldType} {rm : Room} {argsL rest : List Value} {Q : Option Value → Heap → List Loc → Prop}
    (hM : own_Con l Z y bytes maxL ret rm argsL.toArray h Q []) (eT : T.heap = h) (wl : (Jvm.Cond.methodLink own index y).before a0 Z = true) (wst : (Jvm.Cond.static y).before a0 Z = true) (wz : (Jvm.Cond.initialized y.cls).before a0 Z = true) (wc : (Jvm.Cond.code y bytes maxL ret).before a0 Z = true) (hy : y.cls ≠ "java/lang/invoke/MethodHandle" ∧ y.cls ≠ "java/lang/invoke/VarHandle")
    {sig : MethodDescriptor} (hpd : parseMethodDescriptor y.desc = some sig) (hlen : argsL.length = sig.parameters.length) {g : JFrame} (hg : g.method = m) (hsize : g.locals.size = c.maxLocals) (hstack : g.stack = argsL.reverse ++ rest) (W : Nat) (hW : 2 * g.monitorRoom + (rest.map fun v => v.category).sum ≤ W) (hdg : decode c.code g.pc = .ok (.invokestatic index, 3))
    (hf : rm.frames + 1 ≤ R.frames) (hl : W + (maxL + 11) + rm.locals ≤ R.locals) (hcs : cells + rm.cells ≤ R.cells) (hss : slots + rm.slots ≤ R.slots) :
    ∃ (v : Option Value) (T' : State) (L : List Loc), Stand p l e R s m args below meth c T' (locs ++ L) (cells + rm.cells) (slots + rm.slots) ∧ Q v T'.heap L ∧ ∀ t, Steps p.tables e below (T'.setTop { g with pc := g.pc + 3, stack := v.toList ++ rest }) t → Steps p.tables e below (T.setTop g) t := by
  obtain ⟨v, _, ⟨T', L', k', n'⟩, -, X', ⟨L, hQ, q1, q2, q3⟩, st⟩ := Jvm.LawKit.callS X hx hown (mvT hZ wl) (mvT hZ wst) (mvT hZ wz) (mvT hZ wc) hy (backOf (W := W) hM hZ wc wz hf hl) hg hsize (argsL := argsL) (rest := rest) (fun sg hsg => by rw [hpd] at hsg; cases hsg; exact hlen) hstack hW hdg (fun _ _ => ⟨rfl, eT, hcs, hss⟩)
  dsimp only [Pt.U, Pt.locs, Pt.cells, Pt.slots] at X' q1 q2 q3 st hQ
  subst q1 q2 q3
  exact ⟨v, T', L, X', hQ, st⟩
theorem own_callSP (X : Stand p l e R s m args below meth c T locs cells slots) (hx : p.tables.exec = Jvm.exec) (hZ : Z.Warmed39 s.vm) {own : String} (hown : s.vm.findClass own = some m.cls) {index : Nat} {y : MethodName} {bytes : ByteArray} {maxL : Nat} {ret : Option FieldType} {rm : Room} {argsL rest : List Value} {w : Value}
    (hM : own_Con l Z y bytes maxL ret rm argsL.toArray h (own_PQ h w) []) (eT : T.heap = h) (wl : (Jvm.Cond.methodLink own index y).before a0 Z = true) (wst : (Jvm.Cond.static y).before a0 Z = true) (wz : (Jvm.Cond.initialized y.cls).before a0 Z = true) (wc : (Jvm.Cond.code y bytes maxL ret).before a0 Z = true) (hy : y.cls ≠ "java/lang/invoke/MethodHandle" ∧ y.cls ≠ "java/lang/invoke/VarHandle")
    {sig : MethodDescriptor} (hpd : parseMethodDescriptor y.desc = some sig) (hlen : argsL.length = sig.parameters.length) {g : JFrame} (hg : g.method = m) (hsize : g.locals.size = c.maxLocals) (hstack : g.stack = argsL.reverse ++ rest) (W : Nat) (hW : 2 * g.monitorRoom + (rest.map fun v => v.category).sum ≤ W) (hdg : decode c.code g.pc = .ok (.invokestatic index, 3))
    (hf : rm.frames + 1 ≤ R.frames) (hl : W + (maxL + 11) + rm.locals ≤ R.locals) (hrc : rm.cells = 0) (hrs : rm.slots = 0) (hcs : cells ≤ R.cells) (hss : slots ≤ R.slots) :
    ∃ (T' : State), Stand p l e R s m args below meth c T' locs cells slots ∧ T'.heap = h ∧ ∀ t, Steps p.tables e below (T'.setTop { g with pc := g.pc + 3, stack := w :: rest }) t → Steps p.tables e below (T.setTop g) t := by
  obtain ⟨v, T', L, X', ⟨rfl, q2, rfl⟩, st⟩ := own_callS X hx hZ hown hM eT wl wst wz wc hy hpd hlen hg hsize hstack W hW hdg hf hl (by omega) (by omega)
  rw [List.append_nil, hrc, hrs] at X'
  exact ⟨T', X', q2, st⟩
theorem own_callI (X : Stand p l e R s m args below meth c T locs cells slots) (hx : p.tables.exec = Jvm.exec) (hZ : Z.Warmed39 s.vm) {own : String} (hown : s.vm.findClass own = some m.cls) {index : Nat} {y : MethodName} (hy1 : y.name = "<init>") {bytes : ByteArray} {maxL : Nat} {rm : Room} {b : Addr} {argsL rest : List Value} {Q : Option Value → Heap → List Loc → Prop}
    (hM : own_Con l Z y bytes maxL none rm (Value.ref b :: argsL).toArray h Q []) (eT : T.heap = h) (wl : (Jvm.Cond.methodLink own index y).before a0 Z = true) (wi : (Jvm.Cond.instanceMethod y).before a0 Z = true) (wz : (Jvm.Cond.initialized y.cls).before a0 Z = true) (wc : (Jvm.Cond.code y bytes maxL none).before a0 Z = true) (hy : y.cls ≠ "java/lang/invoke/MethodHandle" ∧ y.cls ≠ "java/lang/invoke/VarHandle")
    {sig : MethodDescriptor} (hpd : parseMethodDescriptor y.desc = some sig) (hlen : argsL.length = sig.parameters.length) {g : JFrame} (hg : g.method = m) (hsize : g.locals.size = c.maxLocals) (hstack : g.stack = argsL.reverse ++ .ref b :: rest) (W : Nat) (hW : 2 * g.monitorRoom + (rest.map fun v => v.category).sum ≤ W) (hdg : decode c.code g.pc = .ok (.invokespecial index, 3))
    (hf : rm.frames + 1 ≤ R.frames) (hl : W + (maxL + 11) + rm.locals ≤ R.locals) (hcs : cells + rm.cells ≤ R.cells) (hss : slots + rm.slots ≤ R.slots) :
    ∃ (v : Option Value) (T' : State) (L : List Loc), Stand p l e R s m args below meth c T' (locs ++ L) (cells + rm.cells) (slots + rm.slots) ∧ Q v T'.heap L ∧ ∀ t, Steps p.tables e below (T'.setTop { g with pc := g.pc + 3, stack := v.toList ++ rest }) t → Steps p.tables e below (T.setTop g) t := by
  obtain ⟨v, _, ⟨T', L', k', n'⟩, -, X', ⟨L, hQ, q1, q2, q3⟩, st⟩ := X.specialBack hx hy1 hown (mvT hZ wl) (mvT hZ wi) (mvT hZ wc) hy (backOf (W := W) hM hZ wc wz hf hl) hg hsize (Steps.refl _) (a := b) (argsL := argsL) (rest := rest) (fun sg hsg => by rw [hpd] at hsg; cases hsg; exact hlen) hstack hW hdg (fun _ _ => ⟨rfl, eT, hcs, hss⟩)
  dsimp only [Pt.U, Pt.locs, Pt.cells, Pt.slots] at X' q1 q2 q3 st hQ
  subst q1 q2 q3
  exact ⟨v, T', L, X', hQ, fun _ k => st.trans k⟩
theorem own_callV (X : Stand p l e R s m args below meth c T locs cells slots) (hx : p.tables.exec = Jvm.exec) (hZ : Z.Warmed39 s.vm) {own C : String} (hown : s.vm.findClass own = some m.cls) {index : Nat} {y z : MethodName} {bytes : ByteArray} {maxL : Nat} {ret : Option FieldType} {rm : Room} {b : Addr} {argsL rest : List Value} {Q : Option Value → Heap → List Loc → Prop}
    (hM : own_Con l Z z bytes maxL ret rm (Value.ref b :: argsL).toArray h Q []) (eT : T.heap = h) (hE : Exa Z h b C) (wl : (Jvm.Cond.methodLink own index y).before a0 Z = true) (wd : (Jvm.Cond.declares y).before a0 Z = true) (wsel : (Jvm.Cond.selects C y z).before a0 Z = true) (wi : (Jvm.Cond.instanceMethod z).before a0 Z = true) (wz : (Jvm.Cond.initialized z.cls).before a0 Z = true) (wc : (Jvm.Cond.code z bytes maxL ret).before a0 Z = true) (hnf : NotFace s y) (hy : y.cls ≠ "java/lang/invoke/MethodHandle" ∧ y.cls ≠ "java/lang/invoke/VarHandle")
    {sig : MethodDescriptor} (hpd : parseMethodDescriptor y.desc = some sig) (hlen : argsL.length = sig.parameters.length) {g : JFrame} (hg : g.method = m) (hsize : g.locals.size = c.maxLocals) (hstack : g.stack = argsL.reverse ++ .ref b :: rest) (W : Nat) (hW : 2 * g.monitorRoom + (rest.map fun v => v.category).sum ≤ W) (hdg : decode c.code g.pc = .ok (.invokevirtual index, 3))
    (hf : rm.frames + 1 ≤ R.frames) (hl : W + (maxL + 11) + rm.locals ≤ R.locals) (hcs : cells + rm.cells ≤ R.cells) (hss : slots + rm.slots ≤ R.slots) :
    ∃ (v : Option Value) (T' : State) (L : List Loc), Stand p l e R s m args below meth c T' (locs ++ L) (cells + rm.cells) (slots + rm.slots) ∧ Q v T'.heap L ∧ ∀ t, Steps p.tables e below (T'.setTop { g with pc := g.pc + 3, stack := v.toList ++ rest }) t → Steps p.tables e below (T.setTop g) t := by
  obtain ⟨cq, kq, qa, qb, qc⟩ := isOf hZ eT hE
  obtain ⟨v, _, ⟨T', L', k', n'⟩, -, X', ⟨L, hQ, q1, q2, q3⟩, st⟩ := X.virtualBack hx hown (mvT hZ wl) (mvT hZ wd) hnf (mvT hZ wsel) (mvT hZ wi) hy (backOf (W := W) hM hZ wc wz hf hl) qa qc hg hsize (Steps.refl _) (argsL := argsL) (rest := rest) (fun sg hsg => by rw [hpd] at hsg; cases hsg; exact hlen) hstack hW hdg (fun _ _ => ⟨rfl, eT, hcs, hss⟩)
  dsimp only [Pt.U, Pt.locs, Pt.cells, Pt.slots] at X' q1 q2 q3 st hQ
  subst q1 q2 q3
  exact ⟨v, T', L, X', hQ, fun _ k => st.trans k⟩
theorem own_callP (X : Stand p l e R s m args below meth c T locs cells slots) (hx : p.tables.exec = Jvm.exec) (hZ : Z.Warmed39 s.vm) {own C : String} (hown : s.vm.findClass own = some m.cls) {index kk : Nat} {y : MethodName} {bytes : ByteArray} {maxL : Nat} {ret : Option FieldType} {rm : Room} {b : Addr} {argsL rest : List Value} {Q : Option Value → Heap → List Loc → Prop}
    (hM : own_Con l Z y bytes maxL ret rm (Value.ref b :: argsL).toArray h Q []) (eT : T.heap = h) (hE : Exa Z h b C) (wl : (Jvm.Cond.methodLink own index y).before a0 Z = true) (wi : (Jvm.Cond.instanceMethod y).before a0 Z = true) (wp : (Jvm.Cond.privateMethod y).before a0 Z = true) (wn : (Jvm.Cond.instantiable y.cls kk).before a0 Z = true) (wz : (Jvm.Cond.initialized y.cls).before a0 Z = true) (wc : (Jvm.Cond.code y bytes maxL ret).before a0 Z = true) (hy : y.cls ≠ "java/lang/invoke/MethodHandle" ∧ y.cls ≠ "java/lang/invoke/VarHandle")
    {sig : MethodDescriptor} (hpd : parseMethodDescriptor y.desc = some sig) (hlen : argsL.length = sig.parameters.length) {g : JFrame} (hg : g.method = m) (hsize : g.locals.size = c.maxLocals) (hstack : g.stack = argsL.reverse ++ .ref b :: rest) (W : Nat) (hW : 2 * g.monitorRoom + (rest.map fun v => v.category).sum ≤ W) (hdg : decode c.code g.pc = .ok (.invokevirtual index, 3))
    (hf : rm.frames + 1 ≤ R.frames) (hl : W + (maxL + 11) + rm.locals ≤ R.locals) (hcs : cells + rm.cells ≤ R.cells) (hss : slots + rm.slots ≤ R.slots) :
    ∃ (v : Option Value) (T' : State) (L : List Loc), Stand p l e R s m args below meth c T' (locs ++ L) (cells + rm.cells) (slots + rm.slots) ∧ Q v T'.heap L ∧ ∀ t, Steps p.tables e below (T'.setTop { g with pc := g.pc + 3, stack := v.toList ++ rest }) t → Steps p.tables e below (T.setTop g) t := by
  obtain ⟨cq, q, q'⟩ := hE.cell
  have hp := Cond.privateMethod_at (mvP hZ wp (args := #[]))
  have hn : (Jvm.Cond.instantiable y.cls kk).before args s = true := mvT hZ wn
  obtain ⟨c2, k2, i1, i2, i3, i4, -⟩ := Cond.instantiable_spec hn
  have hsel : (Jvm.Cond.selects y.cls y y).before args s = true := selects_self_of_private i1 i2 (Bool.or_eq_false_iff.mp i4).1 hp (mvT hZ wi) hy
  obtain ⟨v, _, ⟨T', L', k', n'⟩, -, X', ⟨L, hQ, q1, q2, q3⟩, st⟩ := X.privateBack hx hown (mvT hZ wl) (mvT hZ wi) hsel hp (mvT hZ wc) hy (backOf (W := W) hM hZ wc wz hf hl) hg hsize (Steps.refl _) (a := b) (by rw [eT]; exact q) q' (argsL := argsL) (rest := rest) (fun sg hsg => by rw [hpd] at hsg; cases hsg; exact hlen) hstack hW hdg (fun _ _ => ⟨rfl, eT, hcs, hss⟩)
  dsimp only [Pt.U, Pt.locs, Pt.cells, Pt.slots] at X' q1 q2 q3 st hQ
  subst q1 q2 q3
  exact ⟨v, T', L, X', hQ, fun _ k => st.trans k⟩
theorem own_pn {y : MethodName} (hq : plainName y.cls = true) : plainFor y = true := plainFor_of_name hq
end OwnKit
section OwnArr
variable {p : Program} {l : Launch} {e : Env} {R : Room} {s : State} {m : MethodId} {args : Array Value} {below : List Frame} {meth : Method} {c : Code} {T : State} {locs : List Loc} {cells slots : Nat} {Z : State} {a0 : Array Value} {h h' h0 : Heap} {a b : Addr} {ty : FieldType} {vs : List Value} {v : Value} {i sl : Nat} {ws : List Addr}
/-- an array of ty's at a, its components vs -/
def own_AV (Z : State) (h : Heap) (a : Addr) (ty : FieldType) (vs : List Value) : Prop := ∃ c : Cell, Arr Z h a c ty ∧ c.slots.toList = vs ∧ vs.length < 2147483648 ∧ ∀ v ∈ vs, fits ty v = true
theorem own_AV.lt (A : own_AV Z h a ty vs) : a < h.size := by obtain ⟨c, q, -⟩ := A; exact q.lt
theorem own_AV.short (A : own_AV Z h a ty vs) : vs.length < 2147483648 := by obtain ⟨c, -, -, q, -⟩ := A; exact q
theorem own_AV.ext (A : own_AV Z h a ty vs) (E : Ext h h') : own_AV Z h' a ty vs := by obtain ⟨c, q, r⟩ := A; exact ⟨c, q.ext E, r⟩
theorem own_AV.other (A : own_AV Z h b ty vs) (W : Wr h h' a sl v) (q : b ≠ a) : own_AV Z h' b ty vs := by obtain ⟨c, k, r⟩ := A; exact ⟨c, k.other W q, r⟩
theorem own_AV.keep (A : own_AV Z h a ty vs) (K : Keep h h' ws) (q : a ∉ ws) : own_AV Z h' a ty vs := by obtain ⟨c, k, r⟩ := A; exact ⟨c, ⟨K.2.1 a c k.1 q, k.2⟩, r⟩
theorem own_AV.set (A : own_AV Z h a ty vs) (W : Wr h h' a i v) (hv : fits ty v = true) : own_AV Z h' a ty (vs.set i v) := by
  obtain ⟨c, k, r, z, f⟩ := A
  refine ⟨c.setSlot i v, k.same W, ?_, by rw [List.length_set]; exact z, fun u hu => ?_⟩
  · show (c.slots.setIfInBounds i v).toList = _
    rw [Array.toList_setIfInBounds, r]
  · rcases List.mem_or_eq_of_mem_set hu with q | q
    · exact f u q
    · rw [q]; exact hv
theorem own_idx {j : Int32} {i : Nat} (hj : j.toInt = i) : ¬ j < 0 ∧ j.toNatClampNeg = i := by
  refine ⟨?_, ?_⟩
  · rw [Int32.lt_iff_toInt_lt, hj]; show ¬ (i : Int) < 0; omega
  · simp only [Int32.toNatClampNeg, hj]; rfl
theorem own_AV_new {cA : ClassId} {n : Int32} {k : Nat} (A : Arr Z h a (newA cA ty n) ty) (hn : n.toInt = k) : own_AV Z h a ty (List.replicate k (defaultValue ty)) := by
  obtain ⟨q1, q2⟩ := own_idx hn
  refine ⟨_, A, ?_, ?_, fun v hv => ?_⟩
  · show (Array.replicate n.toNatClampNeg _).toList = _
    rw [q2, Array.toList_replicate]
  · rw [List.length_replicate]
    have := n.toInt_lt
    omega
  · rw [(List.mem_replicate.mp hv).2]; cases ty <;> rfl
theorem own_newA (X : Stand p l e R s m args below meth c T locs cells slots) (hx : p.tables.exec = Jvm.exec) (hZ : Z.Warmed39 s.vm) {aty : ArrayType} (w : (Jvm.Cond.arrayClass (newarray.typeOf aty)).before a0 Z = true) (eT : T.heap = h) {g : JFrame} (hg : g.method = m) (hd : decode c.code g.pc = .ok (.newarray aty, 2)) {n : Int32} {rest : List Value} (hs : g.stack = .int n :: rest)
    (k cap : Nat) (hn : n.toInt = k) (hk : k ≤ cap) (hb : cap * 8 ≤ 536870912) (hc : cells + 1 ≤ R.cells) (hl : slots + cap ≤ R.slots) :
    ∃ T' h', Stand p l e R s m args below meth c T' locs (cells + 1) (slots + cap) ∧ T'.heap = h' ∧ Ext h h' ∧ own_AV Z h' h.size (newarray.typeOf aty) (List.replicate k (defaultValue (newarray.typeOf aty))) ∧ ∀ t, Steps p.tables e below (T'.setTop { g with pc := g.pc + 2, stack := .ref h.size :: rest }) t → Steps p.tables e below (T.setTop g) t := by
  obtain ⟨q1, q2⟩ := own_idx hn
  obtain ⟨T', h', cA, X', e', E, A, st⟩ := newP X hx hZ w eT hg hd hs q1 (cap := cap) (by rw [q2]; exact hk) hb hc hl
  exact ⟨T', h', X', e', E, own_AV_new A hn, st⟩
theorem own_stI (X : Stand p l e R s m args below meth c T locs cells slots) (hx : p.tables.exec = Jvm.exec) (hZ : Z.Warmed39 s.vm) (eT : T.heap = h) (A : own_AV Z h a .int vs) {j x : Int32} {g : JFrame} (hg : g.method = m) {rest : List Value} (hs : g.stack = .int x :: .int j :: .ref a :: rest) (hd : decode c.code g.pc = .ok (.iastore, 1)) (i : Nat) (hj : j.toInt = i) (hi : i < vs.length) :
    ∃ T' h', Stand p l e R s m args below meth c T' (locs ++ [⟨a, i⟩]) cells slots ∧ T'.heap = h' ∧ Wr h h' a i (.int x) ∧ own_AV Z h' a .int (vs.set i (.int x)) ∧ ∀ t, Steps p.tables e below (T'.setTop { g with pc := g.pc + 1, stack := rest }) t → Steps p.tables e below (T.setTop g) t := by
  obtain ⟨q1, q2⟩ := own_idx hj
  have A' := A
  obtain ⟨cl, k, r, -, -⟩ := A
  have hz : cl.slots.size = vs.length := by rw [← r]; simp
  obtain ⟨T', h', X', e', W, st⟩ := stI X hx hZ eT k (j := j) (x := x) (by rw [q2, hz]; exact fun u => u.elim q1 (fun z => by omega)) hg hs hd
  rw [q2] at X' W
  exact ⟨T', h', X', e', W, A'.set W rfl, st⟩
theorem own_stJ (X : Stand p l e R s m args below meth c T locs cells slots) (hx : p.tables.exec = Jvm.exec) (hZ : Z.Warmed39 s.vm) (eT : T.heap = h) (A : own_AV Z h a .long vs) {j : Int32} {x : Int64} {g : JFrame} (hg : g.method = m) {rest : List Value} (hs : g.stack = .long x :: .int j :: .ref a :: rest) (hd : decode c.code g.pc = .ok (.lastore, 1)) (i : Nat) (hj : j.toInt = i) (hi : i < vs.length) :
    ∃ T' h', Stand p l e R s m args below meth c T' (locs ++ [⟨a, i⟩]) cells slots ∧ T'.heap = h' ∧ Wr h h' a i (.long x) ∧ own_AV Z h' a .long (vs.set i (.long x)) ∧ ∀ t, Steps p.tables e below (T'.setTop { g with pc := g.pc + 1, stack := rest }) t → Steps p.tables e below (T.setTop g) t := by
  obtain ⟨q1, q2⟩ := own_idx hj
  have A' := A
  obtain ⟨cl, k, r, -, -⟩ := A
  have hz : cl.slots.size = vs.length := by rw [← r]; simp
  obtain ⟨T', h', X', e', W, st⟩ := stJ X hx hZ eT k (j := j) (x := x) (by rw [q2, hz]; exact fun u => u.elim q1 (fun z => by omega)) hg hs hd
  rw [q2] at X' W
  exact ⟨T', h', X', e', W, A'.set W rfl, st⟩
theorem own_ldI (X : Stand p l e R s m args below meth c T locs cells slots) (hx : p.tables.exec = Jvm.exec) (hZ : Z.Warmed39 s.vm) (eT : T.heap = h) (A : own_AV Z h a .int vs) {j : Int32} {g : JFrame} (hg : g.method = m) {rest : List Value} (hs : g.stack = .int j :: .ref a :: rest) (hd : decode c.code g.pc = .ok (.iaload, 1)) (i : Nat) (hj : j.toInt = i) {x : Value} (hi : vs[i]? = some x) :
    ∀ t, Steps p.tables e below (T.setTop { g with pc := g.pc + 1, stack := x :: rest }) t → Steps p.tables e below (T.setTop g) t := by
  obtain ⟨q1, q2⟩ := own_idx hj
  obtain ⟨cl, k, r, -, -⟩ := A
  have hz : cl.slots.size = vs.length := by rw [← r]; simp
  have hv : cl.slots[i]? = some x := by rw [← Array.getElem?_toList, r]; exact hi
  have hl := (List.getElem?_eq_some_iff.mp hi).1
  exact X.iaload hx (by rw [eT]; exact k.1) (State.isArrayOf_alike hZ.alike k.2.1) k.2.2 (by rw [q2, hz]; exact fun u => u.elim q1 (fun z => by omega)) (by rw [q2]; exact hv) hg hs hd
theorem own_ldJ (X : Stand p l e R s m args below meth c T locs cells slots) (hx : p.tables.exec = Jvm.exec) (hZ : Z.Warmed39 s.vm) (eT : T.heap = h) (A : own_AV Z h a .long vs) {j : Int32} {g : JFrame} (hg : g.method = m) {rest : List Value} (hs : g.stack = .int j :: .ref a :: rest) (hd : decode c.code g.pc = .ok (.laload, 1)) (i : Nat) (hj : j.toInt = i) {x : Value} (hi : vs[i]? = some x) :
    ∀ t, Steps p.tables e below (T.setTop { g with pc := g.pc + 1, stack := x :: rest }) t → Steps p.tables e below (T.setTop g) t := by
  obtain ⟨q1, q2⟩ := own_idx hj
  obtain ⟨cl, k, r, -, -⟩ := A
  have hz : cl.slots.size = vs.length := by rw [← r]; simp
  have hv : cl.slots[i]? = some x := by rw [← Array.getElem?_toList, r]; exact hi
  have hl := (List.getElem?_eq_some_iff.mp hi).1
  exact X.laload hx (by rw [eT]; exact k.1) (State.isArrayOf_alike hZ.alike k.2.1) k.2.2 (by rw [q2, hz]; exact fun u => u.elim q1 (fun z => by omega)) (by rw [q2]; exact hv) hg hs hd
theorem own_len (X : Stand p l e R s m args below meth c T locs cells slots) (hx : p.tables.exec = Jvm.exec) (hZ : Z.Warmed39 s.vm) (eT : T.heap = h) (A : own_AV Z h a ty vs) {g : JFrame} (hg : g.method = m) {rest : List Value} (hs : g.stack = .ref a :: rest) (hd : decode c.code g.pc = .ok (.arraylength, 1)) (n : Int32) (hn : n.toInt = vs.length) :
    ∀ t, Steps p.tables e below (T.setTop { g with pc := g.pc + 1, stack := .int n :: rest }) t → Steps p.tables e below (T.setTop g) t := by
  obtain ⟨cl, k, r, z, -⟩ := A
  have hz : cl.slots.size = vs.length := by rw [← r]; simp
  have en : cl.slots.size.toInt32 = n := Int32.toInt_inj.mp (by rw [hn, hz]; exact len_toInt z)
  intro t q
  refine X.arraylength hx (by rw [eT]; exact k.1) (State.isArrayOf_alike hZ.alike k.2.1) hg hs hd t ?_
  rw [en]; exact q
theorem own_newAE (X : Stand p l e R s m args below meth c T locs cells slots) (hx : p.tables.exec = Jvm.exec) (hZ : Z.Warmed39 s.vm) {aty : ArrayType} (w : (Jvm.Cond.arrayClass (newarray.typeOf aty)).before a0 Z = true) (eT : T.heap = h) {g : JFrame} (hg : g.method = m) (hd : decode c.code g.pc = .ok (.newarray aty, 2)) {n : Int32} {rest : List Value} (hs : g.stack = .int n :: rest)
    (k cap : Nat) (hn : n.toInt = k) (hk : k ≤ cap) (hb : cap * 8 ≤ 536870912) (hc : cells + 1 ≤ R.cells) (hl : slots + cap ≤ R.slots) {ad : String} (had : "[" ++ (newarray.typeOf aty).toString = ad) :
    ∃ T' h', Stand p l e R s m args below meth c T' locs (cells + 1) (slots + cap) ∧ T'.heap = h' ∧ Ext h h' ∧ own_AV Z h' h.size (newarray.typeOf aty) (List.replicate k (defaultValue (newarray.typeOf aty))) ∧ Exa Z h' h.size ad ∧ ∀ t, Steps p.tables e below (T'.setTop { g with pc := g.pc + 2, stack := .ref h.size :: rest }) t → Steps p.tables e below (T.setTop g) t := by
  obtain ⟨q1, q2⟩ := own_idx hn
  obtain ⟨T', h', cA, X', e', E, A, C, st⟩ := newPE X hx hZ w eT hg hd hs q1 (cap := cap) (by rw [q2]; exact hk) hb hc hl had
  exact ⟨T', h', X', e', E, own_AV_new A hn, C, st⟩
theorem own_AV.arv (A : own_AV Z h a ty vs) {z : Int32} (hz : z.toInt = vs.length) (dv : Value) : ∃ k, Arv Z h a k ty z vs dv := by
  obtain ⟨q1, q2⟩ := own_idx hz
  obtain ⟨cl, k, r, -, f⟩ := A
  have hs : cl.slots.size = vs.length := by rw [← r]; simp
  refine ⟨cl.cls, cl, k, rfl, by rw [hs, q2], q1, fun i hi => ?_, fun i hi => ?_⟩
  · rw [← Array.getElem?_toList, r, List.getD_eq_getElem?_getD, List.getElem?_eq_getElem (by omega)]; rfl
  · rw [List.getD_eq_getElem?_getD, List.getElem?_eq_getElem (by omega)]; exact f _ (List.getElem_mem _)
theorem own_arv {k : ClassId} {z : Int32} {dv : Value} (F : Arv Z h a k ty z vs dv) (hl : vs.length = z.toNatClampNeg) : own_AV Z h a ty vs := by
  obtain ⟨cl, A, -, S, q, H, G⟩ := F
  have hs : cl.slots.size = vs.length := by rw [S, hl]
  have e1 : cl.slots.toList = vs := by
    apply List.ext_getElem?
    intro i
    by_cases hi : i < vs.length
    · have := H i (by omega)
      rw [Array.getElem?_toList, this, List.getD_eq_getElem?_getD, List.getElem?_eq_getElem hi]; rfl
    · rw [List.getElem?_eq_none (l := vs) (by omega), List.getElem?_eq_none (l := cl.slots.toList) (by rw [Array.length_toList]; omega)]
  refine ⟨cl, A, e1, ?_, fun v hv => ?_⟩
  · have := z.toInt_lt
    rw [hl]; simp only [Int32.toNatClampNeg]; omega
  · obtain ⟨i, hi, rfl⟩ := List.getElem_of_mem hv
    have := G i (by omega)
    rw [List.getD_eq_getElem?_getD, List.getElem?_eq_getElem hi] at this
    exact this
theorem own_copy (X : Stand p l e R s m args below meth c T locs cells slots) (hx : p.tables.exec = Jvm.exec) (hZ : Z.Warmed39 s.vm) {own : String} {index : Nat} (hown : s.vm.findClass own = some m.cls)
    (w1 : (Jvm.Cond.methodLink own index Jvm.Stand.acN).before a0 Z = true) (w2 : (Jvm.Cond.native Jvm.Stand.acN).before a0 Z = true) (w3 : (Jvm.Cond.static Jvm.Stand.acN).before a0 Z = true) (w4 : (Jvm.Cond.initialized "java/lang/System").before a0 Z = true) (eT : T.heap = h)
    {us : List Value} (A : own_AV Z h a ty vs) (B : own_AV Z h b ty us) (hp : refKind ty = false) {sp dp nn : Int32} {g : JFrame} (hg : g.method = m) (hsize : g.locals.size = c.maxLocals) {rest : List Value} (hs : g.stack = .int nn :: .int dp :: .ref b :: .int sp :: .ref a :: rest) (hd : decode c.code g.pc = .ok (.invokestatic index, 3))
    (i j n : Nat) (hsp : sp.toInt = i) (hdp : dp.toInt = j) (hn : nn.toInt = n) (h4 : i + n ≤ vs.length) (h5 : j + n ≤ us.length) {n0 : Nat} (N : Fr n0 locs) (ge : n0 ≤ b)
    (W : Nat) (hW : 2 * g.monitorRoom + (rest.map fun v => v.category).sum ≤ W) (hf : 1 ≤ R.frames) (hlo : W + (nativeFrameWords "java/lang/System" "arraycopy" 5 + 11) ≤ R.locals) :
    ∃ T' h' L, Stand p l e R s m args below meth c T' L cells slots ∧ T'.heap = h' ∧ Fr n0 L ∧ Keep h h' [b] ∧ own_AV Z h' b ty (us.take j ++ (vs.drop i).take n ++ us.drop (j + n)) ∧
      ∀ t, Steps p.tables e below (T'.setTop { g with pc := g.pc + 3, stack := rest }) t → Steps p.tables e below (T.setTop g) t := by
  obtain ⟨s1, s2⟩ := own_idx hsp
  obtain ⟨d1, d2⟩ := own_idx hdp
  obtain ⟨n1, n2⟩ := own_idx hn
  have zA := len_toInt A.short
  have zB := len_toInt B.short
  obtain ⟨kA, FA⟩ := A.arv zA .null
  obtain ⟨kB, FB⟩ := B.arv zB .null
  have cA : vs.length.toInt32.toNatClampNeg = vs.length := (own_idx zA).2
  have cB : us.length.toInt32.toNatClampNeg = us.length := (own_idx zB).2
  have hus : (vs.drop i).take n = (List.range nn.toNatClampNeg).map fun q => vs.getD (sp.toNatClampNeg + q) .null := by
    rw [n2, s2]
    apply List.ext_getElem?
    intro q
    by_cases hq : q < n
    · rw [List.getElem?_take_of_lt hq, List.getElem?_drop, List.getElem?_map, List.getElem?_range hq, List.getElem?_eq_getElem (by omega)]
      show some _ = some (vs.getD (i + q) .null)
      rw [List.getD_eq_getElem?_getD, List.getElem?_eq_getElem (by omega)]; rfl
    · rw [List.getElem?_eq_none (by rw [List.length_take]; omega), List.getElem?_eq_none (by simp; omega)]
  obtain ⟨T', h', L, X', e', NL, K, F', st⟩ := cpA X hx hZ hown w1 w2 w3 w4 eT FA FB (Or.inl ⟨rfl, hp⟩) s1 d1 n1 (by rw [s2, n2, cA]; exact h4) (by rw [d2, n2, cB]; exact h5) hus (by rw [d2, n2]; exact h5) N ge hg hsize hs hd hf hW hlo
  rw [d2, n2] at F'
  exact ⟨T', h', L, X', e', NL, K, own_arv F' (by rw [cB]; simp only [List.length_append, List.length_take, List.length_drop]; omega), st⟩
theorem own_clone (X : Stand p l e R s m args below meth c T locs cells slots) (hx : p.tables.exec = Jvm.exec) (hZ : Z.Warmed39 s.vm) {own ad : String} {index : Nat} (hown : s.vm.findClass own = some m.cls)
    (w1 : (Jvm.Cond.methodLink own index ⟨ad, "clone", "()Ljava/lang/Object;"⟩).before a0 Z = true) (w2 : (Jvm.Cond.sameMethod ad "java/lang/Object" "clone" "()Ljava/lang/Object;").before a0 Z = true) (w3 : (Jvm.Cond.native ⟨"java/lang/Object", "clone", "()Ljava/lang/Object;"⟩).before a0 Z = true)
    (w4 : (Jvm.Cond.instanceMethod ⟨"java/lang/Object", "clone", "()Ljava/lang/Object;"⟩).before a0 Z = true) (w5 : (Jvm.Cond.selects ad ⟨ad, "clone", "()Ljava/lang/Object;"⟩ ⟨"java/lang/Object", "clone", "()Ljava/lang/Object;"⟩).before a0 Z = true) (w6 : (Jvm.Cond.castable ad "java/lang/Cloneable").before a0 Z = true)
    (eT : T.heap = h) (A : own_AV Z h a ty vs) (E : Exa Z h a ad) {g : JFrame} (hg : g.method = m) (hsize : g.locals.size = c.maxLocals) {rest : List Value} (hs : g.stack = .ref a :: rest) (hd : decode c.code g.pc = .ok (.invokevirtual index, 3))
    (W cap : Nat) (hW : 2 * g.monitorRoom + (rest.map fun v => v.category).sum ≤ W) (hf : 1 ≤ R.frames) (hl : W + 14 ≤ R.locals) (hcap : vs.length ≤ cap) (hc : cells + 1 ≤ R.cells) (hsl : slots + cap ≤ R.slots) :
    ∃ T' h', Stand p l e R s m args below meth c T' locs (cells + 1) (slots + cap) ∧ T'.heap = h' ∧ Ext h h' ∧ own_AV Z h' h.size ty vs ∧ Exa Z h' h.size ad ∧
      ∀ t, Steps p.tables e below (T'.setTop { g with pc := g.pc + 3, stack := .ref h.size :: rest }) t → Steps p.tables e below (T.setTop g) t := by
  obtain ⟨cl, k, r, z, f⟩ := A
  have hz : cl.slots.size = vs.length := by rw [← r]; simp
  have FC : FitC Z cl := fitC_of k fun i hi v hv => f v (by rw [← r]; exact List.mem_of_getElem? (i := i) (by rw [Array.getElem?_toList]; exact hv))
  obtain ⟨T', h', X', e', E', A', C', st⟩ := cloneA X hx hZ hown w1 w2 w3 w4 w5 w6 eT k E FC hg hsize hs hd hf (W := W) hW hl (cap := cap) (by omega) hc hsl
  exact ⟨T', h', X', e', E', ⟨_, A', r, z, f⟩, C', st⟩
end OwnArr
theorem d4_0 : decode jdk_30_method_1_code 0 = .ok (.aload_n 0, 1) := by decide +kernel
theorem d4_1 : decode jdk_30_method_1_code 1 = .ok (.invokespecial 1, 3) := by decide +kernel
theorem d4_4 : decode jdk_30_method_1_code 4 = .ok (.return_, 1) := by decide +kernel
set_option maxRecDepth 65536 in
set_option maxHeartbeats 40000000 in
theorem own_record_con (l : Launch) (Z : State) (a0 : Array Value) (hw : ∀ d ∈ tables_1, d.before a0 Z = true) (a : Addr) (h0 : Heap)  (ws : List Jvm.Cond) :
    own_Con l Z (⟨"java/lang/Record", "<init>", "()V"⟩ : MethodName) jdk_30_method_1_code 1 none ({ frames := 1, cells := 0, slots := 0, locals := 20 } : Room) #[(.ref a)] h0 (fun v h L => v = none ∧ h = h0 ∧ L = []) ws := by
  refine own_con (F := fun m => (mkF m 0 #[.val (.ref a)] [])) (own_pn (by first | (simp [plainName, overriddenIn]; done) | decide +kernel)) (fun m => by first | (simp [entryFrame, mkF, argsToLocals, Value.category]; done) | rfl) ?_
  intro p e s m below meth c T X hx hby hml hZ hown hnm hret hlk eT
  show own_Go p e below (own_Out s (fun v h L => v = none ∧ h = h0 ∧ L = []) ({ frames := 1, cells := 0, slots := 0, locals := 20 } : Room).cells ({ frames := 1, cells := 0, slots := 0, locals := 20 } : Room).slots) (T.setTop (mkF m 0 #[.val (.ref a)] []))
  refine own_go (fun _ => XS.aloadN X.here hx rfl (hb hby d4_0) rfl rfl) ?_
  obtain ⟨T1, X1, e1, st1⟩ := initO X hx hZ hown (hw _ (List.mem_of_getElem? (i := 28) rfl)) (hw _ (List.mem_of_getElem? (i := 7) rfl)) (hw _ (List.mem_of_getElem? (i := 8) rfl)) eT (g := (mkF m 1 #[.val (.ref a)] [(.ref a)])) rfl (by rw [hml]; rfl) rfl (hb hby d4_1) (by decide) (W := 0) (by show 2 * 0 + _ ≤ _; exact Nat.le_of_eq rfl) (by decide)
  refine own_go st1 ?_
  exact own_vret X1 hx hlk hret (hb hby d4_4) (Nat.zero_le _) (Nat.zero_le _) ⟨rfl, e1, rfl⟩
/-- a Stamp at a -/
def own_Stamp (Z : State) (h : Heap) (a : Addr) (c : Int64) (k : Int32) : Prop := Exa Z h a "tidemark/model/Stamp" ∧ Fld Z h a "tidemark/model/Stamp" "counter" "J" (.long c) ∧ Fld Z h a "tidemark/model/Stamp" "member" "I" (.int k)
theorem own_Stamp.keep {Z : State} {h h' : Heap} {a : Addr} {c : Int64} {k : Int32} {ws : List Addr} (S : own_Stamp Z h a c k) (K : Keep h h' ws) (q : a ∉ ws) : own_Stamp Z h' a c k := ⟨S.1.keep K, S.2.1.keep K q, S.2.2.keep K q⟩
theorem own_Stamp.ext {Z : State} {h h' : Heap} {a : Addr} {c : Int64} {k : Int32} (S : own_Stamp Z h a c k) (E : Ext h h') : own_Stamp Z h' a c k := ⟨S.1.ext E, S.2.1.ext E, S.2.2.ext E⟩
theorem d3_0 : decode prog_50_method_1_code 0 = .ok (.aload_n 0, 1) := by decide +kernel
theorem d3_1 : decode prog_50_method_1_code 1 = .ok (.invokespecial 1, 3) := by decide +kernel
theorem d3_4 : decode prog_50_method_1_code 4 = .ok (.aload_n 0, 1) := by decide +kernel
theorem d3_5 : decode prog_50_method_1_code 5 = .ok (.lload_n 1, 1) := by decide +kernel
theorem d3_6 : decode prog_50_method_1_code 6 = .ok (.putfield 7, 3) := by decide +kernel
theorem d3_9 : decode prog_50_method_1_code 9 = .ok (.aload_n 0, 1) := by decide +kernel
theorem d3_10 : decode prog_50_method_1_code 10 = .ok (.iload_n 3, 1) := by decide +kernel
theorem d3_11 : decode prog_50_method_1_code 11 = .ok (.putfield 13, 3) := by decide +kernel
theorem d3_14 : decode prog_50_method_1_code 14 = .ok (.return_, 1) := by decide +kernel
set_option maxRecDepth 65536 in
set_option maxHeartbeats 40000000 in
theorem own_stampI_con (l : Launch) (Z : State) (a0 : Array Value) (hw : ∀ d ∈ tables_1, d.before a0 Z = true) (a : Addr) (cn : Int64) (k : Int32) (n0 : Nat) (h0 : Heap) (o_E0 : Exa Z h0 a "tidemark/model/Stamp") (o_c0 : Fld Z h0 a "tidemark/model/Stamp" "counter" "J" (.long 0)) (o_m0 : Fld Z h0 a "tidemark/model/Stamp" "member" "I" (.int 0)) (ga : n0 ≤ a) (ws : List Jvm.Cond) :
    own_Con l Z (⟨"tidemark/model/Stamp", "<init>", "(JI)V"⟩ : MethodName) prog_50_method_1_code 4 none ({ frames := 2, cells := 0, slots := 0, locals := 40 } : Room) #[(.ref a), (.long cn), (.int k)] h0 (fun v h L => v = none ∧ Fr n0 L ∧ Keep h0 h [a] ∧ own_Stamp Z h a cn k) ws := by
  refine own_con (F := fun m => (mkF m 0 #[.val (.ref a), .val (.long cn), .second, .val (.int k)] [])) (own_pn (by first | (simp [plainName, overriddenIn]; done) | decide +kernel)) (fun m => by first | (simp [entryFrame, mkF, argsToLocals, Value.category]; done) | rfl) ?_
  intro p e s m below meth c T X hx hby hml hZ hown hnm hret hlk eT
  show own_Go p e below (own_Out s (fun v h L => v = none ∧ Fr n0 L ∧ Keep h0 h [a] ∧ own_Stamp Z h a cn k) ({ frames := 2, cells := 0, slots := 0, locals := 40 } : Room).cells ({ frames := 2, cells := 0, slots := 0, locals := 40 } : Room).slots) (T.setTop (mkF m 0 #[.val (.ref a), .val (.long cn), .second, .val (.int k)] []))
  have N0 := Fr.nil n0
  have K0 := Keep.refl h0 [a]
  refine own_go (fun _ => XS.aloadN X.here hx rfl (hb hby d3_0) rfl rfl) ?_
  obtain ⟨_, T1, L1, X1, ⟨rfl, eh1, rfl⟩, st1⟩ := own_callI X hx hZ hown rfl (argsL := []) (rest := []) (own_record_con l Z a0 hw a h0 []) eT (hw _ (List.mem_of_getElem? (i := 23) rfl)) (hw _ (List.mem_of_getElem? (i := 24) rfl)) (hw _ (List.mem_of_getElem? (i := 26) rfl)) (hw _ (List.mem_of_getElem? (i := 27) rfl)) (by decide) (by decide +kernel : parseMethodDescriptor "()V" = some ⟨[], none⟩) rfl (g := (mkF m 1 #[.val (.ref a), .val (.long cn), .second, .val (.int k)] [(.ref a)])) rfl (by rw [hml]; rfl) rfl 0 (by show 2 * 0 + _ ≤ _; exact Nat.le_of_eq rfl) (hb hby d3_1) (by decide) (by decide) (by decide) (by decide)
  rw [List.append_nil] at X1
  refine own_go st1 ?_
  refine own_go (fun _ => XS.aloadN X1.here hx rfl (hb hby d3_4) rfl rfl) ?_
  refine own_go (fun _ => XT.lloadN X1.here hx rfl (hb hby d3_5) rfl) ?_
  show own_Go p e below _ (T1.setTop (mkF m 6 #[.val (.ref a), .val (.long cn), .second, .val (.int k)] [(.long cn), (.ref a)]))
  obtain ⟨T2, h2, X2, e2, W2, st2⟩ := putF X1 hx hZ hown (host := "") (Or.inl (hw _ (List.mem_of_getElem? (i := 29) rfl))) Via.refl eh1 o_c0 o_E0 (Or.inr ⟨(hw _ (List.mem_of_getElem? (i := 30) rfl)), rfl, hnm⟩) (hw _ (List.mem_of_getElem? (i := 18) rfl)) (ty := .long) (by decide) rfl rfl (g := (mkF m 6 #[.val (.ref a), .val (.long cn), .second, .val (.int k)] [(.long cn), (.ref a)])) rfl rfl (hb hby d3_6)
  have N2 := Fr.snoc X2 N0 ga
  have o_E_2 := o_E0.wr W2
  have o_counter_2 := o_c0.same W2
  have o_member_2 := o_m0.other W2 (Or.inr (slot_ne (t := .int) (t' := .long) (Or.inr (hw _ (List.mem_of_getElem? (i := 32) rfl))) (Or.inr (hw _ (List.mem_of_getElem? (i := 30) rfl))) (by decide) (by decide) (by decide)))
  have K2 := K0.wr W2 (Or.inl (List.mem_of_getElem? (i := 0) rfl))
  refine own_go st2 ?_
  refine own_go (fun _ => XS.aloadN X2.here hx rfl (hb hby d3_9) rfl rfl) ?_
  refine own_go (fun _ => XS.iloadN X2.here hx rfl (hb hby d3_10) rfl) ?_
  obtain ⟨T3, h3, X3, e3, W3, st3⟩ := putF X2 hx hZ hown (host := "") (Or.inl (hw _ (List.mem_of_getElem? (i := 31) rfl))) Via.refl e2 o_member_2 o_E_2 (Or.inr ⟨(hw _ (List.mem_of_getElem? (i := 32) rfl)), rfl, hnm⟩) (hw _ (List.mem_of_getElem? (i := 18) rfl)) (ty := .int) (by decide) rfl rfl (g := (mkF m 11 #[.val (.ref a), .val (.long cn), .second, .val (.int k)] [(.int k), (.ref a)])) rfl rfl (hb hby d3_11)
  have N3 := Fr.snoc X3 N2 ga
  have o_E_3 := o_E_2.wr W3
  have o_counter_3 := o_counter_2.other W3 (Or.inr (slot_ne (t := .long) (t' := .int) (Or.inr (hw _ (List.mem_of_getElem? (i := 30) rfl))) (Or.inr (hw _ (List.mem_of_getElem? (i := 32) rfl))) (by decide) (by decide) (by decide)))
  have o_member_3 := o_member_2.same W3
  have K3 := K2.wr W3 (Or.inl (List.mem_of_getElem? (i := 0) rfl))
  refine own_go st3 ?_
  show own_Go p e below _ (T3.setTop (mkF m 14 #[.val (.ref a), .val (.long cn), .second, .val (.int k)] []))
  exact own_vret X3 hx hlk hret (hb hby d3_14) (by decide) (by decide) (by rw [e3]; exact ⟨rfl, N3, K3, o_E_3, o_counter_3, o_member_3⟩)
theorem d6_0 : decode prog_50_method_7_code 0 = .ok (.aload_n 0, 1) := by decide +kernel
theorem d6_1 : decode prog_50_method_7_code 1 = .ok (.getfield 7, 3) := by decide +kernel
theorem d6_4 : decode prog_50_method_7_code 4 = .ok (.lreturn, 1) := by decide +kernel
set_option maxRecDepth 65536 in
set_option maxHeartbeats 40000000 in
theorem own_counter_con (l : Launch) (Z : State) (a0 : Array Value) (hw : ∀ d ∈ tables_1, d.before a0 Z = true) (a : Addr) (cn : Int64) (k : Int32) (h0 : Heap) (S0 : own_Stamp Z h0 a cn k) (ws : List Jvm.Cond) :
    own_Con l Z (⟨"tidemark/model/Stamp", "counter", "()J"⟩ : MethodName) prog_50_method_7_code 1 (some .long) ({ frames := 0, cells := 0, slots := 0, locals := 0 } : Room) #[(.ref a)] h0 (own_PQ h0 (.long cn)) ws := by
  refine own_con (F := fun m => (mkF m 0 #[.val (.ref a)] [])) (own_pn (by first | (simp [plainName, overriddenIn]; done) | decide +kernel)) (fun m => by first | (simp [entryFrame, mkF, argsToLocals, Value.category]; done) | rfl) ?_
  intro p e s m below meth c T X hx hby hml hZ hown hnm hret hlk eT
  show own_Go p e below (own_Out s (own_PQ h0 (.long cn)) ({ frames := 0, cells := 0, slots := 0, locals := 0 } : Room).cells ({ frames := 0, cells := 0, slots := 0, locals := 0 } : Room).slots) (T.setTop (mkF m 0 #[.val (.ref a)] []))
  obtain ⟨o_E0, o_c0, o_m0⟩ := S0
  refine own_go (fun _ => XS.aloadN X.here hx rfl (hb hby d6_0) rfl rfl) ?_
  obtain ⟨T1, X1, e1, st1⟩ := getF X hx hZ hown (host := "") (Or.inl (hw _ (List.mem_of_getElem? (i := 29) rfl))) Via.refl eT o_c0 (g := (mkF m 1 #[.val (.ref a)] [(.ref a)])) rfl rfl (hb hby d6_1)
  refine own_go st1 ?_
  exact own_lret X1 hx hlk hret (hb hby d6_4) (Nat.zero_le _) (Nat.zero_le _) ⟨rfl, e1, rfl⟩
theorem d7_0 : decode prog_50_method_8_code 0 = .ok (.aload_n 0, 1) := by decide +kernel
theorem d7_1 : decode prog_50_method_8_code 1 = .ok (.getfield 13, 3) := by decide +kernel
theorem d7_4 : decode prog_50_method_8_code 4 = .ok (.ireturn, 1) := by decide +kernel
set_option maxRecDepth 65536 in
set_option maxHeartbeats 40000000 in
theorem own_member_con (l : Launch) (Z : State) (a0 : Array Value) (hw : ∀ d ∈ tables_1, d.before a0 Z = true) (a : Addr) (cn : Int64) (k : Int32) (h0 : Heap) (S0 : own_Stamp Z h0 a cn k) (ws : List Jvm.Cond) :
    own_Con l Z (⟨"tidemark/model/Stamp", "member", "()I"⟩ : MethodName) prog_50_method_8_code 1 (some .int) ({ frames := 0, cells := 0, slots := 0, locals := 0 } : Room) #[(.ref a)] h0 (own_PQ h0 (.int k)) ws := by
  refine own_con (F := fun m => (mkF m 0 #[.val (.ref a)] [])) (own_pn (by first | (simp [plainName, overriddenIn]; done) | decide +kernel)) (fun m => by first | (simp [entryFrame, mkF, argsToLocals, Value.category]; done) | rfl) ?_
  intro p e s m below meth c T X hx hby hml hZ hown hnm hret hlk eT
  show own_Go p e below (own_Out s (own_PQ h0 (.int k)) ({ frames := 0, cells := 0, slots := 0, locals := 0 } : Room).cells ({ frames := 0, cells := 0, slots := 0, locals := 0 } : Room).slots) (T.setTop (mkF m 0 #[.val (.ref a)] []))
  obtain ⟨o_E0, o_c0, o_m0⟩ := S0
  refine own_go (fun _ => XS.aloadN X.here hx rfl (hb hby d7_0) rfl rfl) ?_
  obtain ⟨T1, X1, e1, st1⟩ := getF X hx hZ hown (host := "") (Or.inl (hw _ (List.mem_of_getElem? (i := 31) rfl))) Via.refl eT o_m0 (g := (mkF m 1 #[.val (.ref a)] [(.ref a)])) rfl rfl (hb hby d7_1)
  refine own_go st1 ?_
  exact own_iret X1 hx hlk hret (Or.inl rfl) rfl (hb hby d7_4) (Nat.zero_le _) (Nat.zero_le _) ⟨rfl, e1, rfl⟩
theorem d10_0 : decode jdk_35_method_42_code 0 = .ok (.lload_n 0, 1) := by decide +kernel
theorem d10_1 : decode jdk_35_method_42_code 1 = .ok (.lload_n 2, 1) := by decide +kernel
theorem d10_2 : decode jdk_35_method_42_code 2 = .ok (.lcmp, 1) := by decide +kernel
theorem d10_3 : decode jdk_35_method_42_code 3 = .ok (.ifCond .ge 7, 3) := by decide +kernel
theorem d10_6 : decode jdk_35_method_42_code 6 = .ok (.iconst (-1), 1) := by decide +kernel
theorem d10_7 : decode jdk_35_method_42_code 7 = .ok (.goto 14, 3) := by decide +kernel
theorem d10_10 : decode jdk_35_method_42_code 10 = .ok (.lload_n 0, 1) := by decide +kernel
theorem d10_11 : decode jdk_35_method_42_code 11 = .ok (.lload_n 2, 1) := by decide +kernel
theorem d10_12 : decode jdk_35_method_42_code 12 = .ok (.lcmp, 1) := by decide +kernel
theorem d10_13 : decode jdk_35_method_42_code 13 = .ok (.ifCond .ne 7, 3) := by decide +kernel
theorem d10_16 : decode jdk_35_method_42_code 16 = .ok (.iconst 0, 1) := by decide +kernel
theorem d10_17 : decode jdk_35_method_42_code 17 = .ok (.goto 4, 3) := by decide +kernel
theorem d10_20 : decode jdk_35_method_42_code 20 = .ok (.iconst 1, 1) := by decide +kernel
theorem d10_21 : decode jdk_35_method_42_code 21 = .ok (.ireturn, 1) := by decide +kernel
def own_lcmp (x0 : Int64) (x1 : Int64) : Int32 := (if x0 < x1 then (-1 : Int32) else (if x0 = x1 then (0 : Int32) else (1 : Int32)))
set_option maxRecDepth 65536 in
set_option maxHeartbeats 40000000 in
theorem own_lcmp_con (l : Launch) (Z : State) (a0 : Array Value) (hw : ∀ d ∈ tables_1, d.before a0 Z = true) (x0 : Int64) (x1 : Int64)  (h0 : Heap) (ws : List Jvm.Cond) :
    own_Con l Z (⟨"java/lang/Long", "compare", "(JJ)I"⟩ : MethodName) jdk_35_method_42_code 4 (some .int) ({ frames := 0, cells := 0, slots := 0, locals := 0 } : Room) #[(.long x0), (.long x1)] h0 (own_PQ h0 (.int (own_lcmp x0 x1))) ws := by
  refine own_con (F := fun m => (mkF m 0 #[.val (.long x0), .second, .val (.long x1), .second] [])) (own_pn (by first | (simp [plainName, overriddenIn]; done) | decide +kernel)) (fun m => by first | (simp [entryFrame, mkF, argsToLocals, Value.category]; done) | rfl) ?_
  intro p e s m below meth c T X hx hby hml hZ hown hnm hret hlk eT
  show own_Go p e below (own_Out s (own_PQ h0 (.int (own_lcmp x0 x1))) 0 0) (T.setTop (mkF m 0 #[.val (.long x0), .second, .val (.long x1), .second] []))
  show own_Go p e below (own_Out s (own_PQ h0 (.int (if x0 < x1 then (-1 : Int32) else (if x0 = x1 then (0 : Int32) else (1 : Int32))))) 0 0) _
  refine own_go (fun _ => XT.lloadN X.here hx rfl (hb hby d10_0) rfl) ?_
  show own_Go p e below _ (T.setTop (mkF m 1 #[.val (.long x0), .second, .val (.long x1), .second] [(.long x0)]))
  refine own_go (fun _ => XT.lloadN X.here hx rfl (hb hby d10_1) rfl) ?_
  show own_Go p e below _ (T.setTop (mkF m 2 #[.val (.long x0), .second, .val (.long x1), .second] [(.long x1), (.long x0)]))
  refine own_go (fun _ => XT.lcmp X.here hx rfl (hb hby d10_2) rfl) ?_
  show own_Go p e below _ (T.setTop (mkF m 3 #[.val (.long x0), .second, .val (.long x1), .second] [(.int (XT.cmpL x0 x1))]))
  refine own_iteI (fun hc3 => ?_) (fun hc3 => ?_)
  · skip
    refine own_go (fun _ => XS.ifNo X.here hx rfl (hb hby d10_3) rfl (XT.ll_ge_f hc3)) ?_
    show own_Go p e below _ (T.setTop (mkF m 6 #[.val (.long x0), .second, .val (.long x1), .second] []))
    refine own_go (fun _ => XS.iconst X.here hx rfl (hb hby d10_6)) ?_
    show own_Go p e below _ (T.setTop (mkF m 7 #[.val (.long x0), .second, .val (.long x1), .second] [(.int (-1 : Int32))]))
    refine own_go (fun _ => XS.goto X.here hx rfl (pc0 := 7) (pc' := 21) rfl (hb hby d10_7) (by decide) (by decide)) ?_
    show own_Go p e below _ (T.setTop (mkF m 21 #[.val (.long x0), .second, .val (.long x1), .second] [(.int (-1 : Int32))]))
    exact own_iret X hx hlk hret (Or.inl rfl) rfl (hb hby d10_21) (Nat.zero_le _) (Nat.zero_le _) ⟨rfl, eT, rfl⟩
  · skip
    refine own_go (fun _ => XS.ifYes X.here hx rfl (pc0 := 3) (pc' := 10) rfl (hb hby d10_3) rfl (XT.ll_ge_t hc3) (by decide) (by decide)) ?_
    show own_Go p e below _ (T.setTop (mkF m 10 #[.val (.long x0), .second, .val (.long x1), .second] []))
    refine own_go (fun _ => XT.lloadN X.here hx rfl (hb hby d10_10) rfl) ?_
    show own_Go p e below _ (T.setTop (mkF m 11 #[.val (.long x0), .second, .val (.long x1), .second] [(.long x0)]))
    refine own_go (fun _ => XT.lloadN X.here hx rfl (hb hby d10_11) rfl) ?_
    show own_Go p e below _ (T.setTop (mkF m 12 #[.val (.long x0), .second, .val (.long x1), .second] [(.long x1), (.long x0)]))
    refine own_go (fun _ => XT.lcmp X.here hx rfl (hb hby d10_12) rfl) ?_
    show own_Go p e below _ (T.setTop (mkF m 13 #[.val (.long x0), .second, .val (.long x1), .second] [(.int (XT.cmpL x0 x1))]))
    refine own_iteI (fun hc13 => ?_) (fun hc13 => ?_)
    · skip
      refine own_go (fun _ => XS.ifNo X.here hx rfl (hb hby d10_13) rfl (XT.ll_ne_f hc13)) ?_
      show own_Go p e below _ (T.setTop (mkF m 16 #[.val (.long x0), .second, .val (.long x1), .second] []))
      refine own_go (fun _ => XS.iconst X.here hx rfl (hb hby d10_16)) ?_
      show own_Go p e below _ (T.setTop (mkF m 17 #[.val (.long x0), .second, .val (.long x1), .second] [(.int (0 : Int32))]))
      refine own_go (fun _ => XS.goto X.here hx rfl (pc0 := 17) (pc' := 21) rfl (hb hby d10_17) (by decide) (by decide)) ?_
      show own_Go p e below _ (T.setTop (mkF m 21 #[.val (.long x0), .second, .val (.long x1), .second] [(.int (0 : Int32))]))
      exact own_iret X hx hlk hret (Or.inl rfl) rfl (hb hby d10_21) (Nat.zero_le _) (Nat.zero_le _) ⟨rfl, eT, rfl⟩
    · skip
      refine own_go (fun _ => XS.ifYes X.here hx rfl (pc0 := 13) (pc' := 20) rfl (hb hby d10_13) rfl (XT.ll_ne_t hc13) (by decide) (by decide)) ?_
      show own_Go p e below _ (T.setTop (mkF m 20 #[.val (.long x0), .second, .val (.long x1), .second] []))
      refine own_go (fun _ => XS.iconst X.here hx rfl (hb hby d10_20)) ?_
      show own_Go p e below _ (T.setTop (mkF m 21 #[.val (.long x0), .second, .val (.long x1), .second] [(.int (1 : Int32))]))
      exact own_iret X hx hlk hret (Or.inl rfl) rfl (hb hby d10_21) (Nat.zero_le _) (Nat.zero_le _) ⟨rfl, eT, rfl⟩
theorem own_lcmp_lt {x y : Int64} (h : x < y) : own_lcmp x y = -1 := by unfold own_lcmp; rw [if_pos h]
theorem own_lcmp_gt {x y : Int64} (h : y < x) : own_lcmp x y = 1 := by
  unfold own_lcmp
  have h1 : ¬ x < y := fun q => by rw [Int64.lt_iff_toInt_lt] at *; omega
  have h2 : ¬ x = y := fun q => by rw [q, Int64.lt_iff_toInt_lt] at h; omega
  rw [if_neg h1, if_neg h2]
theorem d14_0 : decode prog_50_method_2_code 0 = .ok (.aload_n 0, 1) := by decide +kernel
theorem d14_1 : decode prog_50_method_2_code 1 = .ok (.getfield 7, 3) := by decide +kernel
theorem d14_4 : decode prog_50_method_2_code 4 = .ok (.aload_n 1, 1) := by decide +kernel
theorem d14_5 : decode prog_50_method_2_code 5 = .ok (.getfield 7, 3) := by decide +kernel
theorem d14_8 : decode prog_50_method_2_code 8 = .ok (.invokestatic 17, 3) := by decide +kernel
theorem d14_11 : decode prog_50_method_2_code 11 = .ok (.istore_n 2, 1) := by decide +kernel
theorem d14_12 : decode prog_50_method_2_code 12 = .ok (.iload_n 2, 1) := by decide +kernel
theorem d14_13 : decode prog_50_method_2_code 13 = .ok (.ifCond .eq 7, 3) := by decide +kernel
theorem d14_16 : decode prog_50_method_2_code 16 = .ok (.iload_n 2, 1) := by decide +kernel
theorem d14_17 : decode prog_50_method_2_code 17 = .ok (.goto 14, 3) := by decide +kernel
theorem d14_31 : decode prog_50_method_2_code 31 = .ok (.ireturn, 1) := by decide +kernel
set_option maxRecDepth 65536 in
set_option maxHeartbeats 40000000 in
theorem own_compareTo_con (l : Launch) (Z : State) (a0 : Array Value) (hw : ∀ d ∈ tables_1, d.before a0 Z = true) (a b : Addr) (cn dn : Int64) (k j : Int32) (h0 : Heap) (S0 : own_Stamp Z h0 a cn k) (U0 : own_Stamp Z h0 b dn j) (hgt : dn < cn) (ws : List Jvm.Cond) :
    own_Con l Z (⟨"tidemark/model/Stamp", "compareTo", "(Ltidemark/model/Stamp;)I"⟩ : MethodName) prog_50_method_2_code 3 (some .int) ({ frames := 1, cells := 0, slots := 0, locals := 40 } : Room) #[(.ref a), (.ref b)] h0 (own_PQ h0 (.int 1)) ws := by
  refine own_con (F := fun m => (mkF m 0 #[.val (.ref a), .val (.ref b), .unset] [])) (own_pn (by first | (simp [plainName, overriddenIn]; done) | decide +kernel)) (fun m => by first | (simp [entryFrame, mkF, argsToLocals, Value.category]; done) | rfl) ?_
  intro p e s m below meth c T X hx hby hml hZ hown hnm hret hlk eT
  show own_Go p e below (own_Out s (own_PQ h0 (.int 1)) ({ frames := 1, cells := 0, slots := 0, locals := 40 } : Room).cells ({ frames := 1, cells := 0, slots := 0, locals := 40 } : Room).slots) (T.setTop (mkF m 0 #[.val (.ref a), .val (.ref b), .unset] []))
  obtain ⟨o_E0, o_c0, o_m0⟩ := S0
  obtain ⟨u_E0, u_c0, u_m0⟩ := U0
  refine own_go (fun _ => XS.aloadN X.here hx rfl (hb hby d14_0) rfl rfl) ?_
  obtain ⟨T1, X1, e1, st1⟩ := getF X hx hZ hown (host := "") (Or.inl (hw _ (List.mem_of_getElem? (i := 29) rfl))) Via.refl eT o_c0 (g := (mkF m 1 #[.val (.ref a), .val (.ref b), .unset] [(.ref a)])) rfl rfl (hb hby d14_1)
  refine own_go st1 ?_
  refine own_go (fun _ => XS.aloadN X1.here hx rfl (hb hby d14_4) rfl rfl) ?_
  obtain ⟨T2, X2, e2, st2⟩ := getF X1 hx hZ hown (host := "") (Or.inl (hw _ (List.mem_of_getElem? (i := 29) rfl))) Via.refl e1 u_c0 (g := (mkF m 5 #[.val (.ref a), .val (.ref b), .unset] [(.ref b), (.long cn)])) rfl rfl (hb hby d14_5)
  refine own_go st2 ?_
  show own_Go p e below _ (T2.setTop (mkF m 8 #[.val (.ref a), .val (.ref b), .unset] [(.long dn), (.long cn)]))
  obtain ⟨T3, X3, e3, st3⟩ := own_callSP X2 hx hZ hown (argsL := [(.long cn), (.long dn)]) (rest := []) (own_lcmp_con l Z a0 hw cn dn h0 []) e2 (hw _ (List.mem_of_getElem? (i := 93) rfl)) (hw _ (List.mem_of_getElem? (i := 66) rfl)) (hw _ (List.mem_of_getElem? (i := 67) rfl)) (hw _ (List.mem_of_getElem? (i := 68) rfl)) (by decide) (by decide +kernel : parseMethodDescriptor "(JJ)I" = some ⟨[.long, .long], some .int⟩) rfl (g := (mkF m 8 #[.val (.ref a), .val (.ref b), .unset] [(.long dn), (.long cn)])) rfl (by rw [hml]; rfl) rfl 0 (by show 2 * 0 + _ ≤ _; exact Nat.le_of_eq rfl) (hb hby d14_8) (by decide) (by decide) rfl rfl (by decide) (by decide)
  refine own_go st3 ?_
  show own_Go p e below _ (T3.setTop (mkF m 11 #[.val (.ref a), .val (.ref b), .unset] [(.int (own_lcmp cn dn))]))
  rw [own_lcmp_gt hgt]
  refine own_go (fun _ => XS.istoreN X3.here hx rfl (hb hby d14_11) rfl (l' := #[.val (.ref a), .val (.ref b), .val (.int (1 : Int32))]) rfl) ?_
  refine own_go (fun _ => XS.iloadN X3.here hx rfl (hb hby d14_12) rfl) ?_
  refine own_go (fun _ => XS.ifNo X3.here hx rfl (hb hby d14_13) rfl (XT.i0_eq_f (by decide))) ?_
  show own_Go p e below _ (T3.setTop (mkF m 16 #[.val (.ref a), .val (.ref b), .val (.int (1 : Int32))] []))
  refine own_go (fun _ => XS.iloadN X3.here hx rfl (hb hby d14_16) rfl) ?_
  refine own_go (fun _ => XS.goto X3.here hx rfl (pc0 := 17) (pc' := 31) rfl (hb hby d14_17) (by decide) (by decide)) ?_
  exact own_iret X3 hx hlk hret (Or.inl rfl) rfl (hb hby d14_31) (Nat.zero_le _) (Nat.zero_le _) ⟨rfl, e3, rfl⟩
theorem d13_0 : decode prog_50_method_3_code 0 = .ok (.aload_n 0, 1) := by decide +kernel
theorem d13_1 : decode prog_50_method_3_code 1 = .ok (.aload_n 1, 1) := by decide +kernel
theorem d13_2 : decode prog_50_method_3_code 2 = .ok (.invokevirtual 28, 3) := by decide +kernel
theorem d13_5 : decode prog_50_method_3_code 5 = .ok (.ifCond .le 7, 3) := by decide +kernel
theorem d13_8 : decode prog_50_method_3_code 8 = .ok (.iconst 1, 1) := by decide +kernel
theorem d13_9 : decode prog_50_method_3_code 9 = .ok (.goto 4, 3) := by decide +kernel
theorem d13_13 : decode prog_50_method_3_code 13 = .ok (.ireturn, 1) := by decide +kernel
set_option maxRecDepth 65536 in
set_option maxHeartbeats 40000000 in
theorem own_isAfter_con (l : Launch) (Z : State) (a0 : Array Value) (hw : ∀ d ∈ tables_1, d.before a0 Z = true) (a b : Addr) (cn dn : Int64) (k j : Int32) (h0 : Heap) (S0 : own_Stamp Z h0 a cn k) (U0 : own_Stamp Z h0 b dn j) (hgt : dn < cn) (ws : List Jvm.Cond) :
    own_Con l Z (⟨"tidemark/model/Stamp", "isAfter", "(Ltidemark/model/Stamp;)Z"⟩ : MethodName) prog_50_method_3_code 2 (some .boolean) ({ frames := 2, cells := 0, slots := 0, locals := 60 } : Room) #[(.ref a), (.ref b)] h0 (own_PQ h0 (.int 1)) ws := by
  refine own_con (F := fun m => (mkF m 0 #[.val (.ref a), .val (.ref b)] [])) (own_pn (by first | (simp [plainName, overriddenIn]; done) | decide +kernel)) (fun m => by first | (simp [entryFrame, mkF, argsToLocals, Value.category]; done) | rfl) ?_
  intro p e s m below meth c T X hx hby hml hZ hown hnm hret hlk eT
  show own_Go p e below (own_Out s (own_PQ h0 (.int 1)) ({ frames := 2, cells := 0, slots := 0, locals := 60 } : Room).cells ({ frames := 2, cells := 0, slots := 0, locals := 60 } : Room).slots) (T.setTop (mkF m 0 #[.val (.ref a), .val (.ref b)] []))
  have o_E0 := S0.1
  refine own_go (fun _ => XS.aloadN X.here hx rfl (hb hby d13_0) rfl rfl) ?_
  refine own_go (fun _ => XS.aloadN X.here hx rfl (hb hby d13_1) rfl rfl) ?_
  obtain ⟨_, T1, L1, X1, ⟨rfl, eh1, rfl⟩, st1⟩ := own_callV X hx hZ hown (argsL := [(.ref b)]) (rest := []) (own_compareTo_con l Z a0 hw a b cn dn k j h0 S0 U0 hgt []) eT o_E0 (hw _ (List.mem_of_getElem? (i := 88) rfl)) (hw _ (List.mem_of_getElem? (i := 89) rfl)) (hw _ (List.mem_of_getElem? (i := 91) rfl)) (hw _ (List.mem_of_getElem? (i := 90) rfl)) (hw _ (List.mem_of_getElem? (i := 19) rfl)) (hw _ (List.mem_of_getElem? (i := 92) rfl)) (notFace_of_selects (args := #[]) (mvT hZ (hw _ (List.mem_of_getElem? (i := 91) rfl)))) (by decide) (by decide +kernel : parseMethodDescriptor "(Ltidemark/model/Stamp;)I" = some ⟨[(.object "tidemark/model/Stamp")], some .int⟩) rfl (g := (mkF m 2 #[.val (.ref a), .val (.ref b)] [(.ref b), (.ref a)])) rfl (by rw [hml]; rfl) rfl 0 (by show 2 * 0 + _ ≤ _; exact Nat.le_of_eq rfl) (hb hby d13_2) (by decide) (by decide) (by decide) (by decide)
  rw [List.append_nil] at X1
  refine own_go st1 ?_
  refine own_go (fun _ => XS.ifNo X1.here hx rfl (hb hby d13_5) rfl (XT.i0_le_f (by decide))) ?_
  show own_Go p e below _ (T1.setTop (mkF m 8 #[.val (.ref a), .val (.ref b)] []))
  refine own_go (fun _ => XS.iconst X1.here hx rfl (hb hby d13_8)) ?_
  refine own_go (fun _ => XS.goto X1.here hx rfl (pc0 := 9) (pc' := 13) rfl (hb hby d13_9) (by decide) (by decide)) ?_
  exact own_iret X1 hx hlk hret (Or.inr (Or.inl rfl)) rfl (hb hby d13_13) (Nat.zero_le _) (Nat.zero_le _) ⟨rfl, eh1, rfl⟩
theorem d15_0 : decode method_2_code 0 = .ok (.aload_n 0, 1) := by decide +kernel
theorem d15_1 : decode method_2_code 1 = .ok (.invokevirtual 7, 3) := by decide +kernel
theorem d15_4 : decode method_2_code 4 = .ok (.lload_n 1, 1) := by decide +kernel
theorem d15_5 : decode method_2_code 5 = .ok (.lcmp, 1) := by decide +kernel
theorem d15_6 : decode method_2_code 6 = .ok (.ifCond .ne 15, 3) := by decide +kernel
theorem d15_9 : decode method_2_code 9 = .ok (.aload_n 0, 1) := by decide +kernel
theorem d15_10 : decode method_2_code 10 = .ok (.invokevirtual 13, 3) := by decide +kernel
theorem d15_13 : decode method_2_code 13 = .ok (.iload_n 3, 1) := by decide +kernel
theorem d15_14 : decode method_2_code 14 = .ok (.if_icmp .ne 7, 3) := by decide +kernel
theorem d15_17 : decode method_2_code 17 = .ok (.iconst 1, 1) := by decide +kernel
theorem d15_18 : decode method_2_code 18 = .ok (.goto 4, 3) := by decide +kernel
theorem d15_22 : decode method_2_code 22 = .ok (.ireturn, 1) := by decide +kernel
set_option maxRecDepth 65536 in
set_option maxHeartbeats 40000000 in
theorem own_same_con (l : Launch) (Z : State) (a0 : Array Value) (hw : ∀ d ∈ tables_1, d.before a0 Z = true) (a : Addr) (cn : Int64) (k : Int32) (h0 : Heap) (S0 : own_Stamp Z h0 a cn k) (ws : List Jvm.Cond) :
    own_Con l Z (⟨"tidemark/protocol/RaisesForgetPinLaw", "same", "(Ltidemark/model/Stamp;JI)Z"⟩ : MethodName) method_2_code 4 (some .boolean) ({ frames := 1, cells := 0, slots := 0, locals := 40 } : Room) #[(.ref a), (.long cn), (.int k)] h0 (own_PQ h0 (.int 1)) ws := by
  refine own_con (F := fun m => (mkF m 0 #[.val (.ref a), .val (.long cn), .second, .val (.int k)] [])) (own_pn (by first | (simp [plainName, overriddenIn]; done) | decide +kernel)) (fun m => by first | (simp [entryFrame, mkF, argsToLocals, Value.category]; done) | rfl) ?_
  intro p e s m below meth c T X hx hby hml hZ hown hnm hret hlk eT
  show own_Go p e below (own_Out s (own_PQ h0 (.int 1)) ({ frames := 1, cells := 0, slots := 0, locals := 40 } : Room).cells ({ frames := 1, cells := 0, slots := 0, locals := 40 } : Room).slots) (T.setTop (mkF m 0 #[.val (.ref a), .val (.long cn), .second, .val (.int k)] []))
  have o_E0 := S0.1
  refine own_go (fun _ => XS.aloadN X.here hx rfl (hb hby d15_0) rfl rfl) ?_
  obtain ⟨_, T1, L1, X1, ⟨rfl, eh1, rfl⟩, st1⟩ := own_callV X hx hZ hown (argsL := []) (rest := []) (own_counter_con l Z a0 hw a cn k h0 S0 []) eT o_E0 (hw _ (List.mem_of_getElem? (i := 98) rfl)) (hw _ (List.mem_of_getElem? (i := 39) rfl)) (hw _ (List.mem_of_getElem? (i := 41) rfl)) (hw _ (List.mem_of_getElem? (i := 40) rfl)) (hw _ (List.mem_of_getElem? (i := 19) rfl)) (hw _ (List.mem_of_getElem? (i := 42) rfl)) (notFace_of_selects (args := #[]) (mvT hZ (hw _ (List.mem_of_getElem? (i := 41) rfl)))) (by decide) (by decide +kernel : parseMethodDescriptor "()J" = some ⟨[], some .long⟩) rfl (g := (mkF m 1 #[.val (.ref a), .val (.long cn), .second, .val (.int k)] [(.ref a)])) rfl (by rw [hml]; rfl) rfl 0 (by show 2 * 0 + _ ≤ _; exact Nat.le_of_eq rfl) (hb hby d15_1) (by decide) (by decide) (by decide) (by decide)
  rw [List.append_nil] at X1
  refine own_go st1 ?_
  refine own_go (fun _ => XT.lloadN X1.here hx rfl (hb hby d15_4) rfl) ?_
  refine own_go (fun _ => XT.lcmp X1.here hx rfl (hb hby d15_5) rfl) ?_
  show own_Go p e below _ (T1.setTop (mkF m 6 #[.val (.ref a), .val (.long cn), .second, .val (.int k)] [(.int (XT.cmpL cn cn))]))
  refine own_go (fun _ => XS.ifNo X1.here hx rfl (hb hby d15_6) rfl (XT.ll_ne_f rfl)) ?_
  refine own_go (fun _ => XS.aloadN X1.here hx rfl (hb hby d15_9) rfl rfl) ?_
  obtain ⟨_, T2, L2, X2, ⟨rfl, eh2, rfl⟩, st2⟩ := own_callV X1 hx hZ hown (argsL := []) (rest := []) (own_member_con l Z a0 hw a cn k h0 S0 []) eh1 o_E0 (hw _ (List.mem_of_getElem? (i := 99) rfl)) (hw _ (List.mem_of_getElem? (i := 44) rfl)) (hw _ (List.mem_of_getElem? (i := 46) rfl)) (hw _ (List.mem_of_getElem? (i := 45) rfl)) (hw _ (List.mem_of_getElem? (i := 19) rfl)) (hw _ (List.mem_of_getElem? (i := 47) rfl)) (notFace_of_selects (args := #[]) (mvT hZ (hw _ (List.mem_of_getElem? (i := 46) rfl)))) (by decide) (by decide +kernel : parseMethodDescriptor "()I" = some ⟨[], some .int⟩) rfl (g := (mkF m 10 #[.val (.ref a), .val (.long cn), .second, .val (.int k)] [(.ref a)])) rfl (by rw [hml]; rfl) rfl 0 (by show 2 * 0 + _ ≤ _; exact Nat.le_of_eq rfl) (hb hby d15_10) (by decide) (by decide) (by decide) (by decide)
  rw [List.append_nil] at X2
  refine own_go st2 ?_
  refine own_go (fun _ => XS.iloadN X2.here hx rfl (hb hby d15_13) rfl) ?_
  show own_Go p e below _ (T2.setTop (mkF m 14 #[.val (.ref a), .val (.long cn), .second, .val (.int k)] [(.int k), (.int k)]))
  refine own_go (fun _ => XS.icmpNo X2.here hx rfl (hb hby d15_14) rfl (XT.ii_ne_f rfl)) ?_
  refine own_go (fun _ => XS.iconst X2.here hx rfl (hb hby d15_17)) ?_
  refine own_go (fun _ => XS.goto X2.here hx rfl (pc0 := 18) (pc' := 22) rfl (hb hby d15_18) (by decide) (by decide)) ?_
  exact own_iret X2 hx hlk hret (Or.inr (Or.inl rfl)) rfl (hb hby d15_22) (Nat.zero_le _) (Nat.zero_le _) ⟨rfl, eh2, rfl⟩
/-- a Raises at a: its arrays at ff, ll, kk holding fs, ls, ks; n raises kept -/
def own_Ra (Z : State) (h : Heap) (a ff ll kk : Addr) (fs ls ks : List Value) (n : Int32) : Prop :=
  (Exa Z h a "tidemark/protocol/Raises" ∧ own_AV Z h ff .long fs ∧ own_AV Z h ll .long ls ∧ own_AV Z h kk .int ks) ∧
  (Fld Z h a "tidemark/protocol/Raises" "from" "[J" (.ref ff) ∧ Fld Z h a "tidemark/protocol/Raises" "lead" "[J" (.ref ll) ∧ Fld Z h a "tidemark/protocol/Raises" "member" "[I" (.ref kk) ∧ Fld Z h a "tidemark/protocol/Raises" "start" "I" (.int (0 : Int32)) ∧ Fld Z h a "tidemark/protocol/Raises" "end" "I" (.int n)) ∧
  (a ≠ ff ∧ a ≠ ll ∧ a ≠ kk ∧ ff ≠ ll ∧ ff ≠ kk ∧ ll ≠ kk)
theorem own_Ra.keep {Z : State} {h h' : Heap} {a ff ll kk : Addr} {fs ls ks : List Value} {n : Int32} {ws : List Addr} (I : own_Ra Z h a ff ll kk fs ls ks n) (K : Keep h h' ws) (qa : a ∉ ws) (qf : ff ∉ ws) (ql : ll ∉ ws) (qk : kk ∉ ws) : own_Ra Z h' a ff ll kk fs ls ks n := by
  obtain ⟨⟨e1, f1, l1, k1⟩, ⟨g1, g2, g3, g4, g5⟩, q⟩ := I
  exact ⟨⟨e1.keep K, f1.keep K qf, l1.keep K ql, k1.keep K qk⟩, ⟨g1.keep K qa, g2.keep K qa, g3.keep K qa, g4.keep K qa, g5.keep K qa⟩, q⟩
theorem own_Ra.ext {Z : State} {h h' : Heap} {a ff ll kk : Addr} {fs ls ks : List Value} {n : Int32} (I : own_Ra Z h a ff ll kk fs ls ks n) (E : Ext h h') : own_Ra Z h' a ff ll kk fs ls ks n := by
  obtain ⟨⟨e1, f1, l1, k1⟩, ⟨g1, g2, g3, g4, g5⟩, q⟩ := I
  exact ⟨⟨e1.ext E, f1.ext E, l1.ext E, k1.ext E⟩, ⟨g1.ext E, g2.ext E, g3.ext E, g4.ext E, g5.ext E⟩, q⟩
theorem d1_0 : decode prog_79_method_1_code 0 = .ok (.aload_n 0, 1) := by decide +kernel
theorem d1_1 : decode prog_79_method_1_code 1 = .ok (.invokespecial 1, 3) := by decide +kernel
theorem d1_4 : decode prog_79_method_1_code 4 = .ok (.aload_n 0, 1) := by decide +kernel
theorem d1_5 : decode prog_79_method_1_code 5 = .ok (.bipush 8, 2) := by decide +kernel
theorem d1_7 : decode prog_79_method_1_code 7 = .ok (.newarray .long, 2) := by decide +kernel
theorem d1_9 : decode prog_79_method_1_code 9 = .ok (.putfield 7, 3) := by decide +kernel
theorem d1_12 : decode prog_79_method_1_code 12 = .ok (.aload_n 0, 1) := by decide +kernel
theorem d1_13 : decode prog_79_method_1_code 13 = .ok (.bipush 8, 2) := by decide +kernel
theorem d1_15 : decode prog_79_method_1_code 15 = .ok (.newarray .long, 2) := by decide +kernel
theorem d1_17 : decode prog_79_method_1_code 17 = .ok (.putfield 13, 3) := by decide +kernel
theorem d1_20 : decode prog_79_method_1_code 20 = .ok (.aload_n 0, 1) := by decide +kernel
theorem d1_21 : decode prog_79_method_1_code 21 = .ok (.bipush 8, 2) := by decide +kernel
theorem d1_23 : decode prog_79_method_1_code 23 = .ok (.newarray .int, 2) := by decide +kernel
theorem d1_25 : decode prog_79_method_1_code 25 = .ok (.putfield 16, 3) := by decide +kernel
theorem d1_28 : decode prog_79_method_1_code 28 = .ok (.return_, 1) := by decide +kernel
set_option maxRecDepth 65536 in
set_option maxHeartbeats 40000000 in
theorem own_raisesI_con (l : Launch) (Z : State) (a0 : Array Value) (hw : ∀ d ∈ tables_1, d.before a0 Z = true) (a : Addr) (n0 : Nat) (h0 : Heap) (o_E0 : Exa Z h0 a "tidemark/protocol/Raises") (o_from0 : Fld Z h0 a "tidemark/protocol/Raises" "from" "[J" .null) (o_lead0 : Fld Z h0 a "tidemark/protocol/Raises" "lead" "[J" .null) (o_member0 : Fld Z h0 a "tidemark/protocol/Raises" "member" "[I" .null) (o_start0 : Fld Z h0 a "tidemark/protocol/Raises" "start" "I" (.int (0 : Int32))) (o_end0 : Fld Z h0 a "tidemark/protocol/Raises" "end" "I" (.int (0 : Int32))) (ga : n0 ≤ a) (gn : n0 ≤ h0.size) (ws : List Jvm.Cond) :
    own_Con l Z (⟨"tidemark/protocol/Raises", "<init>", "()V"⟩ : MethodName) prog_79_method_1_code 1 none ({ frames := 1, cells := 3, slots := 24, locals := 40 } : Room) #[(.ref a)] h0 (fun v h L => v = none ∧ Fr n0 L ∧ Keep h0 h [a] ∧ ∃ ff ll kk, own_Ra Z h a ff ll kk (List.replicate 8 (.long 0)) (List.replicate 8 (.long 0)) (List.replicate 8 (.int 0)) 0 ∧ h0.size ≤ ff ∧ h0.size ≤ ll ∧ h0.size ≤ kk) ws := by
  refine own_con (F := fun m => (mkF m 0 #[.val (.ref a)] [])) (own_pn (by first | (simp [plainName, overriddenIn]; done) | decide +kernel)) (fun m => by first | (simp [entryFrame, mkF, argsToLocals, Value.category]; done) | rfl) ?_
  intro p e s m below meth c T X hx hby hml hZ hown hnm hret hlk eT
  show own_Go p e below (own_Out s (fun v h L => v = none ∧ Fr n0 L ∧ Keep h0 h [a] ∧ ∃ ff ll kk, own_Ra Z h a ff ll kk (List.replicate 8 (.long 0)) (List.replicate 8 (.long 0)) (List.replicate 8 (.int 0)) 0 ∧ h0.size ≤ ff ∧ h0.size ≤ ll ∧ h0.size ≤ kk) ({ frames := 1, cells := 3, slots := 24, locals := 40 } : Room).cells ({ frames := 1, cells := 3, slots := 24, locals := 40 } : Room).slots) (T.setTop (mkF m 0 #[.val (.ref a)] []))
  have N0 := Fr.nil n0
  have K0 := Keep.refl h0 [a]
  refine own_go (fun _ => XS.aloadN X.here hx rfl (hb hby d1_0) rfl rfl) ?_
  obtain ⟨T1, X1, e1, st1⟩ := initO X hx hZ hown (hw _ (List.mem_of_getElem? (i := 6) rfl)) (hw _ (List.mem_of_getElem? (i := 7) rfl)) (hw _ (List.mem_of_getElem? (i := 8) rfl)) eT (g := (mkF m 1 #[.val (.ref a)] [(.ref a)])) rfl (by rw [hml]; rfl) rfl (hb hby d1_1) (by decide) (W := 0) (by show 2 * 0 + _ ≤ _; exact Nat.le_of_eq rfl) (by decide)
  refine own_go st1 ?_
  refine own_go (fun _ => XS.aloadN X1.here hx rfl (hb hby d1_4) rfl rfl) ?_
  refine own_go (fun _ => XS.bipush X1.here hx rfl (hb hby d1_5)) ?_
  show own_Go p e below _ (T1.setTop (mkF m 7 #[.val (.ref a)] [(.int (8 : Int32)), (.ref a)]))
  obtain ⟨T2, h2, X2, e2, E2, A2, C2, st2⟩ := own_newAE X1 hx hZ (aty := .long) (hw _ (List.mem_of_getElem? (i := 9) rfl)) e1 (g := (mkF m 7 #[.val (.ref a)] [(.int (8 : Int32)), (.ref a)])) rfl (hb hby d1_7) rfl 8 8 (by decide) (by decide) (by decide) (by decide) (by decide) (ad := "[J") (by first | rfl | decide)
  obtain ⟨a2, q2⟩ : ∃ z, z = h0.size := ⟨_, rfl⟩
  rw [← q2] at A2 C2 st2
  have ne_a_a2 : a ≠ a2 := fun z => absurd o_E0.lt (by rw [z, q2]; exact Nat.lt_irrefl _)
  have o_E_2 := o_E0.ext E2
  have o_from_2 := o_from0.ext E2
  have o_lead_2 := o_lead0.ext E2
  have o_member_2 := o_member0.ext E2
  have o_start_2 := o_start0.ext E2
  have o_end_2 := o_end0.ext E2
  have K2 := K0.ext E2
  refine own_go st2 ?_
  have g_a2 : h0.size ≤ a2 := by rw [q2]; exact Nat.le_refl _
  obtain ⟨T3, h3, X3, e3, W3, st3⟩ := putF X2 hx hZ hown (host := "") (Or.inl (hw _ (List.mem_of_getElem? (i := 10) rfl))) Via.refl e2 o_from_2 o_E_2 (Or.inl (hw _ (List.mem_of_getElem? (i := 11) rfl))) (hw _ (List.mem_of_getElem? (i := 1) rfl)) (ty := (.array .long)) (by decide) rfl rfl (g := (mkF m 9 #[.val (.ref a)] [(.ref a2), (.ref a)])) rfl rfl (hb hby d1_9)
  have N3 := Fr.snoc X3 N0 ga
  have o_E_3 := o_E_2.wr W3
  have o_from_3 := o_from_2.same W3
  have o_lead_3 := o_lead_2.other W3 (Or.inr (slot_ne (t := (.array .long)) (t' := (.array .long)) (Or.inl (hw _ (List.mem_of_getElem? (i := 13) rfl))) (Or.inl (hw _ (List.mem_of_getElem? (i := 11) rfl))) (by decide) (by decide) (by decide)))
  have o_member_3 := o_member_2.other W3 (Or.inr (slot_ne (t := (.array .int)) (t' := (.array .long)) (Or.inl (hw _ (List.mem_of_getElem? (i := 16) rfl))) (Or.inl (hw _ (List.mem_of_getElem? (i := 11) rfl))) (by decide) (by decide) (by decide)))
  have o_start_3 := o_start_2.other W3 (Or.inr (slot_ne (t := .int) (t' := (.array .long)) (Or.inl (hw _ (List.mem_of_getElem? (i := 55) rfl))) (Or.inl (hw _ (List.mem_of_getElem? (i := 11) rfl))) (by decide) (by decide) (by decide)))
  have o_end_3 := o_end_2.other W3 (Or.inr (slot_ne (t := .int) (t' := (.array .long)) (Or.inl (hw _ (List.mem_of_getElem? (i := 49) rfl))) (Or.inl (hw _ (List.mem_of_getElem? (i := 11) rfl))) (by decide) (by decide) (by decide)))
  have f_E_3 := C2.wr W3
  have f_A_3 := A2.other W3 (Ne.symm ne_a_a2)
  have K3 := K2.wr W3 (Or.inl (List.mem_of_getElem? (i := 0) rfl))
  refine own_go st3 ?_
  refine own_go (fun _ => XS.aloadN X3.here hx rfl (hb hby d1_12) rfl rfl) ?_
  refine own_go (fun _ => XS.bipush X3.here hx rfl (hb hby d1_13)) ?_
  show own_Go p e below _ (T3.setTop (mkF m 15 #[.val (.ref a)] [(.int (8 : Int32)), (.ref a)]))
  obtain ⟨T4, h4, X4, e4, E4, A4, C4, st4⟩ := own_newAE X3 hx hZ (aty := .long) (hw _ (List.mem_of_getElem? (i := 9) rfl)) e3 (g := (mkF m 15 #[.val (.ref a)] [(.int (8 : Int32)), (.ref a)])) rfl (hb hby d1_15) rfl 8 8 (by decide) (by decide) (by decide) (by decide) (by decide) (ad := "[J") (by first | rfl | decide)
  obtain ⟨a4, q4⟩ : ∃ z, z = h3.size := ⟨_, rfl⟩
  rw [← q4] at A4 C4 st4
  have ne_a_a4 : a ≠ a4 := fun z => absurd o_E_3.lt (by rw [z, q4]; exact Nat.lt_irrefl _)
  have ne_a2_a4 : a2 ≠ a4 := fun z => absurd f_A_3.lt (by rw [z, q4]; exact Nat.lt_irrefl _)
  have o_E_4 := o_E_3.ext E4
  have o_from_4 := o_from_3.ext E4
  have o_lead_4 := o_lead_3.ext E4
  have o_member_4 := o_member_3.ext E4
  have o_start_4 := o_start_3.ext E4
  have o_end_4 := o_end_3.ext E4
  have f_A_4 := f_A_3.ext E4
  have K4 := K3.ext E4
  refine own_go st4 ?_
  have g_a4 : h0.size ≤ a4 := by rw [q4]; exact (Nat.le_trans g_a2 (Nat.le_of_lt f_A_3.lt))
  obtain ⟨T5, h5, X5, e5, W5, st5⟩ := putF X4 hx hZ hown (host := "") (Or.inl (hw _ (List.mem_of_getElem? (i := 12) rfl))) Via.refl e4 o_lead_4 o_E_4 (Or.inl (hw _ (List.mem_of_getElem? (i := 13) rfl))) (hw _ (List.mem_of_getElem? (i := 1) rfl)) (ty := (.array .long)) (by decide) rfl rfl (g := (mkF m 17 #[.val (.ref a)] [(.ref a4), (.ref a)])) rfl rfl (hb hby d1_17)
  have N5 := Fr.snoc X5 N3 ga
  have o_E_5 := o_E_4.wr W5
  have o_from_5 := o_from_4.other W5 (Or.inr (slot_ne (t := (.array .long)) (t' := (.array .long)) (Or.inl (hw _ (List.mem_of_getElem? (i := 11) rfl))) (Or.inl (hw _ (List.mem_of_getElem? (i := 13) rfl))) (by decide) (by decide) (by decide)))
  have o_lead_5 := o_lead_4.same W5
  have o_member_5 := o_member_4.other W5 (Or.inr (slot_ne (t := (.array .int)) (t' := (.array .long)) (Or.inl (hw _ (List.mem_of_getElem? (i := 16) rfl))) (Or.inl (hw _ (List.mem_of_getElem? (i := 13) rfl))) (by decide) (by decide) (by decide)))
  have o_start_5 := o_start_4.other W5 (Or.inr (slot_ne (t := .int) (t' := (.array .long)) (Or.inl (hw _ (List.mem_of_getElem? (i := 55) rfl))) (Or.inl (hw _ (List.mem_of_getElem? (i := 13) rfl))) (by decide) (by decide) (by decide)))
  have o_end_5 := o_end_4.other W5 (Or.inr (slot_ne (t := .int) (t' := (.array .long)) (Or.inl (hw _ (List.mem_of_getElem? (i := 49) rfl))) (Or.inl (hw _ (List.mem_of_getElem? (i := 13) rfl))) (by decide) (by decide) (by decide)))
  have f_A_5 := f_A_4.other W5 (Ne.symm ne_a_a2)
  have l_E_5 := C4.wr W5
  have l_A_5 := A4.other W5 (Ne.symm ne_a_a4)
  have K5 := K4.wr W5 (Or.inl (List.mem_of_getElem? (i := 0) rfl))
  refine own_go st5 ?_
  refine own_go (fun _ => XS.aloadN X5.here hx rfl (hb hby d1_20) rfl rfl) ?_
  refine own_go (fun _ => XS.bipush X5.here hx rfl (hb hby d1_21)) ?_
  show own_Go p e below _ (T5.setTop (mkF m 23 #[.val (.ref a)] [(.int (8 : Int32)), (.ref a)]))
  obtain ⟨T6, h6, X6, e6, E6, A6, C6, st6⟩ := own_newAE X5 hx hZ (aty := .int) (hw _ (List.mem_of_getElem? (i := 14) rfl)) e5 (g := (mkF m 23 #[.val (.ref a)] [(.int (8 : Int32)), (.ref a)])) rfl (hb hby d1_23) rfl 8 8 (by decide) (by decide) (by decide) (by decide) (by decide) (ad := "[I") (by first | rfl | decide)
  obtain ⟨a6, q6⟩ : ∃ z, z = h5.size := ⟨_, rfl⟩
  rw [← q6] at A6 C6 st6
  have ne_a_a6 : a ≠ a6 := fun z => absurd o_E_5.lt (by rw [z, q6]; exact Nat.lt_irrefl _)
  have ne_a2_a6 : a2 ≠ a6 := fun z => absurd f_A_5.lt (by rw [z, q6]; exact Nat.lt_irrefl _)
  have ne_a4_a6 : a4 ≠ a6 := fun z => absurd l_A_5.lt (by rw [z, q6]; exact Nat.lt_irrefl _)
  have o_E_6 := o_E_5.ext E6
  have o_from_6 := o_from_5.ext E6
  have o_lead_6 := o_lead_5.ext E6
  have o_member_6 := o_member_5.ext E6
  have o_start_6 := o_start_5.ext E6
  have o_end_6 := o_end_5.ext E6
  have f_A_6 := f_A_5.ext E6
  have l_A_6 := l_A_5.ext E6
  have K6 := K5.ext E6
  refine own_go st6 ?_
  have g_a6 : h0.size ≤ a6 := by rw [q6]; exact (Nat.le_trans g_a4 (Nat.le_of_lt l_A_5.lt))
  obtain ⟨T7, h7, X7, e7, W7, st7⟩ := putF X6 hx hZ hown (host := "") (Or.inl (hw _ (List.mem_of_getElem? (i := 15) rfl))) Via.refl e6 o_member_6 o_E_6 (Or.inl (hw _ (List.mem_of_getElem? (i := 16) rfl))) (hw _ (List.mem_of_getElem? (i := 1) rfl)) (ty := (.array .int)) (by decide) rfl rfl (g := (mkF m 25 #[.val (.ref a)] [(.ref a6), (.ref a)])) rfl rfl (hb hby d1_25)
  have N7 := Fr.snoc X7 N5 ga
  have o_E_7 := o_E_6.wr W7
  have o_from_7 := o_from_6.other W7 (Or.inr (slot_ne (t := (.array .long)) (t' := (.array .int)) (Or.inl (hw _ (List.mem_of_getElem? (i := 11) rfl))) (Or.inl (hw _ (List.mem_of_getElem? (i := 16) rfl))) (by decide) (by decide) (by decide)))
  have o_lead_7 := o_lead_6.other W7 (Or.inr (slot_ne (t := (.array .long)) (t' := (.array .int)) (Or.inl (hw _ (List.mem_of_getElem? (i := 13) rfl))) (Or.inl (hw _ (List.mem_of_getElem? (i := 16) rfl))) (by decide) (by decide) (by decide)))
  have o_member_7 := o_member_6.same W7
  have o_start_7 := o_start_6.other W7 (Or.inr (slot_ne (t := .int) (t' := (.array .int)) (Or.inl (hw _ (List.mem_of_getElem? (i := 55) rfl))) (Or.inl (hw _ (List.mem_of_getElem? (i := 16) rfl))) (by decide) (by decide) (by decide)))
  have o_end_7 := o_end_6.other W7 (Or.inr (slot_ne (t := .int) (t' := (.array .int)) (Or.inl (hw _ (List.mem_of_getElem? (i := 49) rfl))) (Or.inl (hw _ (List.mem_of_getElem? (i := 16) rfl))) (by decide) (by decide) (by decide)))
  have f_A_7 := f_A_6.other W7 (Ne.symm ne_a_a2)
  have l_A_7 := l_A_6.other W7 (Ne.symm ne_a_a4)
  have k_E_7 := C6.wr W7
  have k_A_7 := A6.other W7 (Ne.symm ne_a_a6)
  have K7 := K6.wr W7 (Or.inl (List.mem_of_getElem? (i := 0) rfl))
  refine own_go st7 ?_
  exact own_vret X7 hx hlk hret (hb hby d1_28) (by decide) (by decide) (by rw [e7]; exact ⟨rfl, N7, K7, a2, a4, a6, ⟨⟨o_E_7, f_A_7, l_A_7, k_A_7⟩, ⟨o_from_7, o_lead_7, o_member_7, o_start_7, o_end_7⟩, ⟨ne_a_a2, ne_a_a4, ne_a_a6, ne_a2_a4, ne_a2_a6, ne_a4_a6⟩⟩, g_a2, g_a4, g_a6⟩)
theorem d8_0 : decode prog_79_method_6_code 0 = .ok (.aload_n 0, 1) := by decide +kernel
theorem d8_1 : decode prog_79_method_6_code 1 = .ok (.getfield 40, 3) := by decide +kernel
theorem d8_4 : decode prog_79_method_6_code 4 = .ok (.istore_n 3, 1) := by decide +kernel
theorem d8_5 : decode prog_79_method_6_code 5 = .ok (.aload_n 0, 1) := by decide +kernel
theorem d8_6 : decode prog_79_method_6_code 6 = .ok (.getfield 29, 3) := by decide +kernel
theorem d8_9 : decode prog_79_method_6_code 9 = .ok (.iconst 1, 1) := by decide +kernel
theorem d8_10 : decode prog_79_method_6_code 10 = .ok (.isub, 1) := by decide +kernel
theorem d8_11 : decode prog_79_method_6_code 11 = .ok (.istore 4, 2) := by decide +kernel
theorem d8_13 : decode prog_79_method_6_code 13 = .ok (.iload_n 3, 1) := by decide +kernel
theorem d8_14 : decode prog_79_method_6_code 14 = .ok (.iload 4, 2) := by decide +kernel
theorem d8_16 : decode prog_79_method_6_code 16 = .ok (.if_icmp .gt 40, 3) := by decide +kernel
theorem d8_19 : decode prog_79_method_6_code 19 = .ok (.iload_n 3, 1) := by decide +kernel
theorem d8_20 : decode prog_79_method_6_code 20 = .ok (.iload 4, 2) := by decide +kernel
theorem d8_22 : decode prog_79_method_6_code 22 = .ok (.iadd, 1) := by decide +kernel
theorem d8_23 : decode prog_79_method_6_code 23 = .ok (.iconst 1, 1) := by decide +kernel
theorem d8_24 : decode prog_79_method_6_code 24 = .ok (.iushr, 1) := by decide +kernel
theorem d8_25 : decode prog_79_method_6_code 25 = .ok (.istore 5, 2) := by decide +kernel
theorem d8_27 : decode prog_79_method_6_code 27 = .ok (.aload_n 0, 1) := by decide +kernel
theorem d8_28 : decode prog_79_method_6_code 28 = .ok (.getfield 7, 3) := by decide +kernel
theorem d8_31 : decode prog_79_method_6_code 31 = .ok (.iload 5, 2) := by decide +kernel
theorem d8_33 : decode prog_79_method_6_code 33 = .ok (.laload, 1) := by decide +kernel
theorem d8_34 : decode prog_79_method_6_code 34 = .ok (.lload_n 1, 1) := by decide +kernel
theorem d8_35 : decode prog_79_method_6_code 35 = .ok (.lcmp, 1) := by decide +kernel
theorem d8_36 : decode prog_79_method_6_code 36 = .ok (.ifCond .gt 11, 3) := by decide +kernel
theorem d8_39 : decode prog_79_method_6_code 39 = .ok (.iload 5, 2) := by decide +kernel
theorem d8_41 : decode prog_79_method_6_code 41 = .ok (.iconst 1, 1) := by decide +kernel
theorem d8_42 : decode prog_79_method_6_code 42 = .ok (.iadd, 1) := by decide +kernel
theorem d8_43 : decode prog_79_method_6_code 43 = .ok (.istore_n 3, 1) := by decide +kernel
theorem d8_44 : decode prog_79_method_6_code 44 = .ok (.goto 9, 3) := by decide +kernel
theorem d8_47 : decode prog_79_method_6_code 47 = .ok (.iload 5, 2) := by decide +kernel
theorem d8_49 : decode prog_79_method_6_code 49 = .ok (.iconst 1, 1) := by decide +kernel
theorem d8_50 : decode prog_79_method_6_code 50 = .ok (.isub, 1) := by decide +kernel
theorem d8_51 : decode prog_79_method_6_code 51 = .ok (.istore 4, 2) := by decide +kernel
theorem d8_53 : decode prog_79_method_6_code 53 = .ok (.goto (-40), 3) := by decide +kernel
theorem d8_56 : decode prog_79_method_6_code 56 = .ok (.iload_n 3, 1) := by decide +kernel
theorem d8_57 : decode prog_79_method_6_code 57 = .ok (.iconst 1, 1) := by decide +kernel
theorem d8_58 : decode prog_79_method_6_code 58 = .ok (.isub, 1) := by decide +kernel
theorem d8_59 : decode prog_79_method_6_code 59 = .ok (.ireturn, 1) := by decide +kernel
set_option maxRecDepth 65536 in
set_option maxHeartbeats 40000000 in
theorem own_floor0_con (l : Launch) (Z : State) (a0 : Array Value) (hw : ∀ d ∈ tables_1, d.before a0 Z = true) (a ff ll kk : Addr) (fs ls ks : List Value) (q : Int64) (h0 : Heap) (I0 : own_Ra Z h0 a ff ll kk fs ls ks 0)  (ws : List Jvm.Cond) :
    own_Con l Z (⟨"tidemark/protocol/Raises", "floor", "(J)I"⟩ : MethodName) prog_79_method_6_code 6 (some .int) ({ frames := 0, cells := 0, slots := 0, locals := 0 } : Room) #[(.ref a), (.long q)] h0 (own_PQ h0 (.int (-1 : Int32))) ws := by
  refine own_con (F := fun m => (mkF m 0 #[.val (.ref a), .val (.long q), .second, .unset, .unset, .unset] [])) (own_pn (by first | (simp [plainName, overriddenIn]; done) | decide +kernel)) (fun m => by first | (simp [entryFrame, mkF, argsToLocals, Value.category]; done) | rfl) ?_
  intro p e s m below meth c T X hx hby hml hZ hown hnm hret hlk eT
  show own_Go p e below (own_Out s (own_PQ h0 (.int (-1 : Int32))) ({ frames := 0, cells := 0, slots := 0, locals := 0 } : Room).cells ({ frames := 0, cells := 0, slots := 0, locals := 0 } : Room).slots) (T.setTop (mkF m 0 #[.val (.ref a), .val (.long q), .second, .unset, .unset, .unset] []))
  obtain ⟨⟨o_E0, f_A0, l_A0, k_A0⟩, ⟨o_from0, o_lead0, o_member0, o_start0, o_end0⟩, ⟨ne_a_ff, ne_a_ll, ne_a_kk, ne_ff_ll, ne_ff_kk, ne_ll_kk⟩⟩ := I0
  refine own_go (fun _ => XS.aloadN X.here hx rfl (hb hby d8_0) rfl rfl) ?_
  obtain ⟨T1, X1, e1, st1⟩ := getF X hx hZ hown (host := "") (Or.inl (hw _ (List.mem_of_getElem? (i := 54) rfl))) Via.refl eT o_start0 (g := (mkF m 1 #[.val (.ref a), .val (.long q), .second, .unset, .unset, .unset] [(.ref a)])) rfl rfl (hb hby d8_1)
  refine own_go st1 ?_
  refine own_go (fun _ => XS.istoreN X1.here hx rfl (hb hby d8_4) rfl (l' := #[.val (.ref a), .val (.long q), .second, .val (.int (0 : Int32)), .unset, .unset]) rfl) ?_
  refine own_go (fun _ => XS.aloadN X1.here hx rfl (hb hby d8_5) rfl rfl) ?_
  show own_Go p e below _ (T1.setTop (mkF m 6 #[.val (.ref a), .val (.long q), .second, .val (.int (0 : Int32)), .unset, .unset] [(.ref a)]))
  obtain ⟨T2, X2, e2, st2⟩ := getF X1 hx hZ hown (host := "") (Or.inl (hw _ (List.mem_of_getElem? (i := 48) rfl))) Via.refl e1 o_end0 (g := (mkF m 6 #[.val (.ref a), .val (.long q), .second, .val (.int (0 : Int32)), .unset, .unset] [(.ref a)])) rfl rfl (hb hby d8_6)
  refine own_go st2 ?_
  refine own_go (fun _ => XS.iconst X2.here hx rfl (hb hby d8_9)) ?_
  refine own_go (fun _ => XS.isub X2.here hx rfl (hb hby d8_10) rfl) ?_
  refine own_go (fun _ => XS.istore X2.here hx rfl (hb hby d8_11) rfl (l' := #[.val (.ref a), .val (.long q), .second, .val (.int (0 : Int32)), .val (.int ((0 : Int32) - (1 : Int32))), .unset]) rfl) ?_
  show own_Go p e below _ (T2.setTop (mkF m 13 #[.val (.ref a), .val (.long q), .second, .val (.int (0 : Int32)), .val (.int ((0 : Int32) - (1 : Int32))), .unset] []))
  refine own_go (fun _ => XS.iloadN X2.here hx rfl (hb hby d8_13) rfl) ?_
  refine own_go (fun _ => XS.iload X2.here hx rfl (hb hby d8_14) rfl) ?_
  refine own_go (fun _ => XS.icmpYes X2.here hx rfl (pc0 := 16) (pc' := 56) rfl (hb hby d8_16) rfl (XT.ii_gt_t (by decide)) (by decide) (by decide)) ?_
  refine own_go (fun _ => XS.iloadN X2.here hx rfl (hb hby d8_56) rfl) ?_
  show own_Go p e below _ (T2.setTop (mkF m 57 #[.val (.ref a), .val (.long q), .second, .val (.int (0 : Int32)), .val (.int ((0 : Int32) - (1 : Int32))), .unset] [(.int (0 : Int32))]))
  refine own_go (fun _ => XS.iconst X2.here hx rfl (hb hby d8_57)) ?_
  refine own_go (fun _ => XS.isub X2.here hx rfl (hb hby d8_58) rfl) ?_
  have er : ((0 : Int32) - (1 : Int32)) = (-1 : Int32) := by decide
  show own_Go p e below _ (T2.setTop (mkF m 59 #[.val (.ref a), .val (.long q), .second, .val (.int (0 : Int32)), .val (.int ((0 : Int32) - (1 : Int32))), .unset] [(.int ((0 : Int32) - (1 : Int32)))]))
  rw [er]
  exact own_iret X2 hx hlk hret (Or.inl rfl) rfl (hb hby d8_59) (Nat.zero_le _) (Nat.zero_le _) ⟨rfl, e2, rfl⟩
set_option maxRecDepth 65536 in
set_option maxHeartbeats 40000000 in
theorem own_floor1_con (l : Launch) (Z : State) (a0 : Array Value) (hw : ∀ d ∈ tables_1, d.before a0 Z = true) (a ff ll kk : Addr) (fs ls ks : List Value) (q f0 : Int64) (h0 : Heap) (I0 : own_Ra Z h0 a ff ll kk fs ls ks 1) (g0 : fs[0]? = some (.long f0)) (ws : List Jvm.Cond) :
    own_Con l Z (⟨"tidemark/protocol/Raises", "floor", "(J)I"⟩ : MethodName) prog_79_method_6_code 6 (some .int) ({ frames := 0, cells := 0, slots := 0, locals := 0 } : Room) #[(.ref a), (.long q)] h0 (own_PQ h0 (.int (if q < f0 then (-1 : Int32) else 0))) ws := by
  refine own_con (F := fun m => (mkF m 0 #[.val (.ref a), .val (.long q), .second, .unset, .unset, .unset] [])) (own_pn (by first | (simp [plainName, overriddenIn]; done) | decide +kernel)) (fun m => by first | (simp [entryFrame, mkF, argsToLocals, Value.category]; done) | rfl) ?_
  intro p e s m below meth c T X hx hby hml hZ hown hnm hret hlk eT
  show own_Go p e below (own_Out s (own_PQ h0 (.int (if q < f0 then (-1 : Int32) else 0))) ({ frames := 0, cells := 0, slots := 0, locals := 0 } : Room).cells ({ frames := 0, cells := 0, slots := 0, locals := 0 } : Room).slots) (T.setTop (mkF m 0 #[.val (.ref a), .val (.long q), .second, .unset, .unset, .unset] []))
  obtain ⟨⟨o_E0, f_A0, l_A0, k_A0⟩, ⟨o_from0, o_lead0, o_member0, o_start0, o_end0⟩, ⟨ne_a_ff, ne_a_ll, ne_a_kk, ne_ff_ll, ne_ff_kk, ne_ll_kk⟩⟩ := I0
  refine own_go (fun _ => XS.aloadN X.here hx rfl (hb hby d8_0) rfl rfl) ?_
  obtain ⟨T1, X1, e1, st1⟩ := getF X hx hZ hown (host := "") (Or.inl (hw _ (List.mem_of_getElem? (i := 54) rfl))) Via.refl eT o_start0 (g := (mkF m 1 #[.val (.ref a), .val (.long q), .second, .unset, .unset, .unset] [(.ref a)])) rfl rfl (hb hby d8_1)
  refine own_go st1 ?_
  refine own_go (fun _ => XS.istoreN X1.here hx rfl (hb hby d8_4) rfl (l' := #[.val (.ref a), .val (.long q), .second, .val (.int (0 : Int32)), .unset, .unset]) rfl) ?_
  refine own_go (fun _ => XS.aloadN X1.here hx rfl (hb hby d8_5) rfl rfl) ?_
  show own_Go p e below _ (T1.setTop (mkF m 6 #[.val (.ref a), .val (.long q), .second, .val (.int (0 : Int32)), .unset, .unset] [(.ref a)]))
  obtain ⟨T2, X2, e2, st2⟩ := getF X1 hx hZ hown (host := "") (Or.inl (hw _ (List.mem_of_getElem? (i := 48) rfl))) Via.refl e1 o_end0 (g := (mkF m 6 #[.val (.ref a), .val (.long q), .second, .val (.int (0 : Int32)), .unset, .unset] [(.ref a)])) rfl rfl (hb hby d8_6)
  refine own_go st2 ?_
  refine own_go (fun _ => XS.iconst X2.here hx rfl (hb hby d8_9)) ?_
  refine own_go (fun _ => XS.isub X2.here hx rfl (hb hby d8_10) rfl) ?_
  refine own_go (fun _ => XS.istore X2.here hx rfl (hb hby d8_11) rfl (l' := #[.val (.ref a), .val (.long q), .second, .val (.int (0 : Int32)), .val (.int ((1 : Int32) - (1 : Int32))), .unset]) rfl) ?_
  show own_Go p e below _ (T2.setTop (mkF m 13 #[.val (.ref a), .val (.long q), .second, .val (.int (0 : Int32)), .val (.int ((1 : Int32) - (1 : Int32))), .unset] []))
  refine own_go (fun _ => XS.iloadN X2.here hx rfl (hb hby d8_13) rfl) ?_
  refine own_go (fun _ => XS.iload X2.here hx rfl (hb hby d8_14) rfl) ?_
  refine own_go (fun _ => XS.icmpNo X2.here hx rfl (hb hby d8_16) rfl (XT.ii_gt_f (by decide))) ?_
  refine own_go (fun _ => XS.iloadN X2.here hx rfl (hb hby d8_19) rfl) ?_
  show own_Go p e below _ (T2.setTop (mkF m 20 #[.val (.ref a), .val (.long q), .second, .val (.int (0 : Int32)), .val (.int ((1 : Int32) - (1 : Int32))), .unset] [(.int (0 : Int32))]))
  refine own_go (fun _ => XS.iload X2.here hx rfl (hb hby d8_20) rfl) ?_
  refine own_go (fun _ => XS.iadd X2.here hx rfl (hb hby d8_22) rfl) ?_
  refine own_go (fun _ => XS.iconst X2.here hx rfl (hb hby d8_23)) ?_
  refine own_go (fun _ => XT.iushr X2.here hx rfl (hb hby d8_24) rfl) ?_
  show own_Go p e below _ (T2.setTop (mkF m 25 #[.val (.ref a), .val (.long q), .second, .val (.int (0 : Int32)), .val (.int ((1 : Int32) - (1 : Int32))), .unset] [(.int (XT.ushr ((0 : Int32) + ((1 : Int32) - (1 : Int32))) (1 : Int32)))]))
  refine own_go (fun _ => XS.istore X2.here hx rfl (hb hby d8_25) rfl (l' := #[.val (.ref a), .val (.long q), .second, .val (.int (0 : Int32)), .val (.int ((1 : Int32) - (1 : Int32))), .val (.int (XT.ushr ((0 : Int32) + ((1 : Int32) - (1 : Int32))) (1 : Int32)))]) rfl) ?_
  refine own_go (fun _ => XS.aloadN X2.here hx rfl (hb hby d8_27) rfl rfl) ?_
  obtain ⟨T3, X3, e3, st3⟩ := getF X2 hx hZ hown (host := "") (Or.inl (hw _ (List.mem_of_getElem? (i := 10) rfl))) Via.refl e2 o_from0 (g := (mkF m 28 #[.val (.ref a), .val (.long q), .second, .val (.int (0 : Int32)), .val (.int ((1 : Int32) - (1 : Int32))), .val (.int (XT.ushr ((0 : Int32) + ((1 : Int32) - (1 : Int32))) (1 : Int32)))] [(.ref a)])) rfl rfl (hb hby d8_28)
  refine own_go st3 ?_
  refine own_go (fun _ => XS.iload X3.here hx rfl (hb hby d8_31) rfl) ?_
  show own_Go p e below _ (T3.setTop (mkF m 33 #[.val (.ref a), .val (.long q), .second, .val (.int (0 : Int32)), .val (.int ((1 : Int32) - (1 : Int32))), .val (.int (XT.ushr ((0 : Int32) + ((1 : Int32) - (1 : Int32))) (1 : Int32)))] [(.int (XT.ushr ((0 : Int32) + ((1 : Int32) - (1 : Int32))) (1 : Int32))), (.ref ff)]))
  refine own_go (own_ldJ X3 hx hZ e3 f_A0 (g := (mkF m 33 #[.val (.ref a), .val (.long q), .second, .val (.int (0 : Int32)), .val (.int ((1 : Int32) - (1 : Int32))), .val (.int (XT.ushr ((0 : Int32) + ((1 : Int32) - (1 : Int32))) (1 : Int32)))] [(.int (XT.ushr ((0 : Int32) + ((1 : Int32) - (1 : Int32))) (1 : Int32))), (.ref ff)])) rfl rfl (hb hby d8_33) 0 (by decide) (x := (.long f0)) g0) ?_
  refine own_go (fun _ => XT.lloadN X3.here hx rfl (hb hby d8_34) rfl) ?_
  refine own_go (fun _ => XT.lcmp X3.here hx rfl (hb hby d8_35) rfl) ?_
  refine own_iteI (fun hc0 => ?_) (fun hc0 => ?_)
  · skip
    refine own_go (fun _ => XS.ifYes X3.here hx rfl (pc0 := 36) (pc' := 47) rfl (hb hby d8_36) rfl (XT.ll_gt_t hc0) (by decide) (by decide)) ?_
    show own_Go p e below _ (T3.setTop (mkF m 47 #[.val (.ref a), .val (.long q), .second, .val (.int (0 : Int32)), .val (.int ((1 : Int32) - (1 : Int32))), .val (.int (XT.ushr ((0 : Int32) + ((1 : Int32) - (1 : Int32))) (1 : Int32)))] []))
    refine own_go (fun _ => XS.iload X3.here hx rfl (hb hby d8_47) rfl) ?_
    refine own_go (fun _ => XS.iconst X3.here hx rfl (hb hby d8_49)) ?_
    refine own_go (fun _ => XS.isub X3.here hx rfl (hb hby d8_50) rfl) ?_
    refine own_go (fun _ => XS.istore X3.here hx rfl (hb hby d8_51) rfl (l' := #[.val (.ref a), .val (.long q), .second, .val (.int (0 : Int32)), .val (.int ((XT.ushr ((0 : Int32) + ((1 : Int32) - (1 : Int32))) (1 : Int32)) - (1 : Int32))), .val (.int (XT.ushr ((0 : Int32) + ((1 : Int32) - (1 : Int32))) (1 : Int32)))]) rfl) ?_
    show own_Go p e below _ (T3.setTop (mkF m 53 #[.val (.ref a), .val (.long q), .second, .val (.int (0 : Int32)), .val (.int ((XT.ushr ((0 : Int32) + ((1 : Int32) - (1 : Int32))) (1 : Int32)) - (1 : Int32))), .val (.int (XT.ushr ((0 : Int32) + ((1 : Int32) - (1 : Int32))) (1 : Int32)))] []))
    refine own_go (fun _ => XS.goto X3.here hx rfl (pc0 := 53) (pc' := 13) rfl (hb hby d8_53) (by decide) (by decide)) ?_
    refine own_go (fun _ => XS.iloadN X3.here hx rfl (hb hby d8_13) rfl) ?_
    refine own_go (fun _ => XS.iload X3.here hx rfl (hb hby d8_14) rfl) ?_
    refine own_go (fun _ => XS.icmpYes X3.here hx rfl (pc0 := 16) (pc' := 56) rfl (hb hby d8_16) rfl (XT.ii_gt_t (by decide)) (by decide) (by decide)) ?_
    show own_Go p e below _ (T3.setTop (mkF m 56 #[.val (.ref a), .val (.long q), .second, .val (.int (0 : Int32)), .val (.int ((XT.ushr ((0 : Int32) + ((1 : Int32) - (1 : Int32))) (1 : Int32)) - (1 : Int32))), .val (.int (XT.ushr ((0 : Int32) + ((1 : Int32) - (1 : Int32))) (1 : Int32)))] []))
    refine own_go (fun _ => XS.iloadN X3.here hx rfl (hb hby d8_56) rfl) ?_
    refine own_go (fun _ => XS.iconst X3.here hx rfl (hb hby d8_57)) ?_
    refine own_go (fun _ => XS.isub X3.here hx rfl (hb hby d8_58) rfl) ?_
    have er : ((0 : Int32) - (1 : Int32)) = (-1 : Int32) := by decide
    show own_Go p e below _ (T3.setTop (mkF m 59 #[.val (.ref a), .val (.long q), .second, .val (.int (0 : Int32)), .val (.int ((XT.ushr ((0 : Int32) + ((1 : Int32) - (1 : Int32))) (1 : Int32)) - (1 : Int32))), .val (.int (XT.ushr ((0 : Int32) + ((1 : Int32) - (1 : Int32))) (1 : Int32)))] [(.int ((0 : Int32) - (1 : Int32)))]))
    rw [er]
    exact own_iret X3 hx hlk hret (Or.inl rfl) rfl (hb hby d8_59) (Nat.zero_le _) (Nat.zero_le _) ⟨rfl, e3, rfl⟩
  · skip
    refine own_go (fun _ => XS.ifNo X3.here hx rfl (hb hby d8_36) rfl (XT.ll_gt_f hc0)) ?_
    refine own_go (fun _ => XS.iload X3.here hx rfl (hb hby d8_39) rfl) ?_
    refine own_go (fun _ => XS.iconst X3.here hx rfl (hb hby d8_41)) ?_
    refine own_go (fun _ => XS.iadd X3.here hx rfl (hb hby d8_42) rfl) ?_
    show own_Go p e below _ (T3.setTop (mkF m 43 #[.val (.ref a), .val (.long q), .second, .val (.int (0 : Int32)), .val (.int ((1 : Int32) - (1 : Int32))), .val (.int (XT.ushr ((0 : Int32) + ((1 : Int32) - (1 : Int32))) (1 : Int32)))] [(.int ((XT.ushr ((0 : Int32) + ((1 : Int32) - (1 : Int32))) (1 : Int32)) + (1 : Int32)))]))
    refine own_go (fun _ => XS.istoreN X3.here hx rfl (hb hby d8_43) rfl (l' := #[.val (.ref a), .val (.long q), .second, .val (.int ((XT.ushr ((0 : Int32) + ((1 : Int32) - (1 : Int32))) (1 : Int32)) + (1 : Int32))), .val (.int ((1 : Int32) - (1 : Int32))), .val (.int (XT.ushr ((0 : Int32) + ((1 : Int32) - (1 : Int32))) (1 : Int32)))]) rfl) ?_
    refine own_go (fun _ => XS.goto X3.here hx rfl (pc0 := 44) (pc' := 53) rfl (hb hby d8_44) (by decide) (by decide)) ?_
    refine own_go (fun _ => XS.goto X3.here hx rfl (pc0 := 53) (pc' := 13) rfl (hb hby d8_53) (by decide) (by decide)) ?_
    refine own_go (fun _ => XS.iloadN X3.here hx rfl (hb hby d8_13) rfl) ?_
    show own_Go p e below _ (T3.setTop (mkF m 14 #[.val (.ref a), .val (.long q), .second, .val (.int ((XT.ushr ((0 : Int32) + ((1 : Int32) - (1 : Int32))) (1 : Int32)) + (1 : Int32))), .val (.int ((1 : Int32) - (1 : Int32))), .val (.int (XT.ushr ((0 : Int32) + ((1 : Int32) - (1 : Int32))) (1 : Int32)))] [(.int ((XT.ushr ((0 : Int32) + ((1 : Int32) - (1 : Int32))) (1 : Int32)) + (1 : Int32)))]))
    refine own_go (fun _ => XS.iload X3.here hx rfl (hb hby d8_14) rfl) ?_
    refine own_go (fun _ => XS.icmpYes X3.here hx rfl (pc0 := 16) (pc' := 56) rfl (hb hby d8_16) rfl (XT.ii_gt_t (by decide)) (by decide) (by decide)) ?_
    refine own_go (fun _ => XS.iloadN X3.here hx rfl (hb hby d8_56) rfl) ?_
    refine own_go (fun _ => XS.iconst X3.here hx rfl (hb hby d8_57)) ?_
    show own_Go p e below _ (T3.setTop (mkF m 58 #[.val (.ref a), .val (.long q), .second, .val (.int ((XT.ushr ((0 : Int32) + ((1 : Int32) - (1 : Int32))) (1 : Int32)) + (1 : Int32))), .val (.int ((1 : Int32) - (1 : Int32))), .val (.int (XT.ushr ((0 : Int32) + ((1 : Int32) - (1 : Int32))) (1 : Int32)))] [(.int (1 : Int32)), (.int ((XT.ushr ((0 : Int32) + ((1 : Int32) - (1 : Int32))) (1 : Int32)) + (1 : Int32)))]))
    refine own_go (fun _ => XS.isub X3.here hx rfl (hb hby d8_58) rfl) ?_
    have er : (((XT.ushr ((0 : Int32) + ((1 : Int32) - (1 : Int32))) (1 : Int32)) + (1 : Int32)) - (1 : Int32)) = (0 : Int32) := by decide
    show own_Go p e below _ (T3.setTop (mkF m 59 #[.val (.ref a), .val (.long q), .second, .val (.int ((XT.ushr ((0 : Int32) + ((1 : Int32) - (1 : Int32))) (1 : Int32)) + (1 : Int32))), .val (.int ((1 : Int32) - (1 : Int32))), .val (.int (XT.ushr ((0 : Int32) + ((1 : Int32) - (1 : Int32))) (1 : Int32)))] [(.int (((XT.ushr ((0 : Int32) + ((1 : Int32) - (1 : Int32))) (1 : Int32)) + (1 : Int32)) - (1 : Int32)))]))
    rw [er]
    exact own_iret X3 hx hlk hret (Or.inl rfl) rfl (hb hby d8_59) (Nat.zero_le _) (Nat.zero_le _) ⟨rfl, e3, rfl⟩
set_option maxRecDepth 65536 in
set_option maxHeartbeats 40000000 in
theorem own_floor2_con (l : Launch) (Z : State) (a0 : Array Value) (hw : ∀ d ∈ tables_1, d.before a0 Z = true) (a ff ll kk : Addr) (fs ls ks : List Value) (q f0 f1 : Int64) (h0 : Heap) (I0 : own_Ra Z h0 a ff ll kk fs ls ks 2) (g0 : fs[0]? = some (.long f0)) (g1 : fs[1]? = some (.long f1)) (ws : List Jvm.Cond) :
    own_Con l Z (⟨"tidemark/protocol/Raises", "floor", "(J)I"⟩ : MethodName) prog_79_method_6_code 6 (some .int) ({ frames := 0, cells := 0, slots := 0, locals := 0 } : Room) #[(.ref a), (.long q)] h0 (own_PQ h0 (.int (if q < f0 then (-1 : Int32) else (if q < f1 then 0 else 1)))) ws := by
  refine own_con (F := fun m => (mkF m 0 #[.val (.ref a), .val (.long q), .second, .unset, .unset, .unset] [])) (own_pn (by first | (simp [plainName, overriddenIn]; done) | decide +kernel)) (fun m => by first | (simp [entryFrame, mkF, argsToLocals, Value.category]; done) | rfl) ?_
  intro p e s m below meth c T X hx hby hml hZ hown hnm hret hlk eT
  show own_Go p e below (own_Out s (own_PQ h0 (.int (if q < f0 then (-1 : Int32) else (if q < f1 then 0 else 1)))) ({ frames := 0, cells := 0, slots := 0, locals := 0 } : Room).cells ({ frames := 0, cells := 0, slots := 0, locals := 0 } : Room).slots) (T.setTop (mkF m 0 #[.val (.ref a), .val (.long q), .second, .unset, .unset, .unset] []))
  obtain ⟨⟨o_E0, f_A0, l_A0, k_A0⟩, ⟨o_from0, o_lead0, o_member0, o_start0, o_end0⟩, ⟨ne_a_ff, ne_a_ll, ne_a_kk, ne_ff_ll, ne_ff_kk, ne_ll_kk⟩⟩ := I0
  refine own_go (fun _ => XS.aloadN X.here hx rfl (hb hby d8_0) rfl rfl) ?_
  obtain ⟨T1, X1, e1, st1⟩ := getF X hx hZ hown (host := "") (Or.inl (hw _ (List.mem_of_getElem? (i := 54) rfl))) Via.refl eT o_start0 (g := (mkF m 1 #[.val (.ref a), .val (.long q), .second, .unset, .unset, .unset] [(.ref a)])) rfl rfl (hb hby d8_1)
  refine own_go st1 ?_
  refine own_go (fun _ => XS.istoreN X1.here hx rfl (hb hby d8_4) rfl (l' := #[.val (.ref a), .val (.long q), .second, .val (.int (0 : Int32)), .unset, .unset]) rfl) ?_
  refine own_go (fun _ => XS.aloadN X1.here hx rfl (hb hby d8_5) rfl rfl) ?_
  show own_Go p e below _ (T1.setTop (mkF m 6 #[.val (.ref a), .val (.long q), .second, .val (.int (0 : Int32)), .unset, .unset] [(.ref a)]))
  obtain ⟨T2, X2, e2, st2⟩ := getF X1 hx hZ hown (host := "") (Or.inl (hw _ (List.mem_of_getElem? (i := 48) rfl))) Via.refl e1 o_end0 (g := (mkF m 6 #[.val (.ref a), .val (.long q), .second, .val (.int (0 : Int32)), .unset, .unset] [(.ref a)])) rfl rfl (hb hby d8_6)
  refine own_go st2 ?_
  refine own_go (fun _ => XS.iconst X2.here hx rfl (hb hby d8_9)) ?_
  refine own_go (fun _ => XS.isub X2.here hx rfl (hb hby d8_10) rfl) ?_
  refine own_go (fun _ => XS.istore X2.here hx rfl (hb hby d8_11) rfl (l' := #[.val (.ref a), .val (.long q), .second, .val (.int (0 : Int32)), .val (.int ((2 : Int32) - (1 : Int32))), .unset]) rfl) ?_
  show own_Go p e below _ (T2.setTop (mkF m 13 #[.val (.ref a), .val (.long q), .second, .val (.int (0 : Int32)), .val (.int ((2 : Int32) - (1 : Int32))), .unset] []))
  refine own_go (fun _ => XS.iloadN X2.here hx rfl (hb hby d8_13) rfl) ?_
  refine own_go (fun _ => XS.iload X2.here hx rfl (hb hby d8_14) rfl) ?_
  refine own_go (fun _ => XS.icmpNo X2.here hx rfl (hb hby d8_16) rfl (XT.ii_gt_f (by decide))) ?_
  refine own_go (fun _ => XS.iloadN X2.here hx rfl (hb hby d8_19) rfl) ?_
  show own_Go p e below _ (T2.setTop (mkF m 20 #[.val (.ref a), .val (.long q), .second, .val (.int (0 : Int32)), .val (.int ((2 : Int32) - (1 : Int32))), .unset] [(.int (0 : Int32))]))
  refine own_go (fun _ => XS.iload X2.here hx rfl (hb hby d8_20) rfl) ?_
  refine own_go (fun _ => XS.iadd X2.here hx rfl (hb hby d8_22) rfl) ?_
  refine own_go (fun _ => XS.iconst X2.here hx rfl (hb hby d8_23)) ?_
  refine own_go (fun _ => XT.iushr X2.here hx rfl (hb hby d8_24) rfl) ?_
  show own_Go p e below _ (T2.setTop (mkF m 25 #[.val (.ref a), .val (.long q), .second, .val (.int (0 : Int32)), .val (.int ((2 : Int32) - (1 : Int32))), .unset] [(.int (XT.ushr ((0 : Int32) + ((2 : Int32) - (1 : Int32))) (1 : Int32)))]))
  refine own_go (fun _ => XS.istore X2.here hx rfl (hb hby d8_25) rfl (l' := #[.val (.ref a), .val (.long q), .second, .val (.int (0 : Int32)), .val (.int ((2 : Int32) - (1 : Int32))), .val (.int (XT.ushr ((0 : Int32) + ((2 : Int32) - (1 : Int32))) (1 : Int32)))]) rfl) ?_
  refine own_go (fun _ => XS.aloadN X2.here hx rfl (hb hby d8_27) rfl rfl) ?_
  obtain ⟨T3, X3, e3, st3⟩ := getF X2 hx hZ hown (host := "") (Or.inl (hw _ (List.mem_of_getElem? (i := 10) rfl))) Via.refl e2 o_from0 (g := (mkF m 28 #[.val (.ref a), .val (.long q), .second, .val (.int (0 : Int32)), .val (.int ((2 : Int32) - (1 : Int32))), .val (.int (XT.ushr ((0 : Int32) + ((2 : Int32) - (1 : Int32))) (1 : Int32)))] [(.ref a)])) rfl rfl (hb hby d8_28)
  refine own_go st3 ?_
  refine own_go (fun _ => XS.iload X3.here hx rfl (hb hby d8_31) rfl) ?_
  show own_Go p e below _ (T3.setTop (mkF m 33 #[.val (.ref a), .val (.long q), .second, .val (.int (0 : Int32)), .val (.int ((2 : Int32) - (1 : Int32))), .val (.int (XT.ushr ((0 : Int32) + ((2 : Int32) - (1 : Int32))) (1 : Int32)))] [(.int (XT.ushr ((0 : Int32) + ((2 : Int32) - (1 : Int32))) (1 : Int32))), (.ref ff)]))
  refine own_go (own_ldJ X3 hx hZ e3 f_A0 (g := (mkF m 33 #[.val (.ref a), .val (.long q), .second, .val (.int (0 : Int32)), .val (.int ((2 : Int32) - (1 : Int32))), .val (.int (XT.ushr ((0 : Int32) + ((2 : Int32) - (1 : Int32))) (1 : Int32)))] [(.int (XT.ushr ((0 : Int32) + ((2 : Int32) - (1 : Int32))) (1 : Int32))), (.ref ff)])) rfl rfl (hb hby d8_33) 0 (by decide) (x := (.long f0)) g0) ?_
  refine own_go (fun _ => XT.lloadN X3.here hx rfl (hb hby d8_34) rfl) ?_
  refine own_go (fun _ => XT.lcmp X3.here hx rfl (hb hby d8_35) rfl) ?_
  refine own_iteI (fun hc0 => ?_) (fun hc0 => ?_)
  · skip
    refine own_go (fun _ => XS.ifYes X3.here hx rfl (pc0 := 36) (pc' := 47) rfl (hb hby d8_36) rfl (XT.ll_gt_t hc0) (by decide) (by decide)) ?_
    show own_Go p e below _ (T3.setTop (mkF m 47 #[.val (.ref a), .val (.long q), .second, .val (.int (0 : Int32)), .val (.int ((2 : Int32) - (1 : Int32))), .val (.int (XT.ushr ((0 : Int32) + ((2 : Int32) - (1 : Int32))) (1 : Int32)))] []))
    refine own_go (fun _ => XS.iload X3.here hx rfl (hb hby d8_47) rfl) ?_
    refine own_go (fun _ => XS.iconst X3.here hx rfl (hb hby d8_49)) ?_
    refine own_go (fun _ => XS.isub X3.here hx rfl (hb hby d8_50) rfl) ?_
    refine own_go (fun _ => XS.istore X3.here hx rfl (hb hby d8_51) rfl (l' := #[.val (.ref a), .val (.long q), .second, .val (.int (0 : Int32)), .val (.int ((XT.ushr ((0 : Int32) + ((2 : Int32) - (1 : Int32))) (1 : Int32)) - (1 : Int32))), .val (.int (XT.ushr ((0 : Int32) + ((2 : Int32) - (1 : Int32))) (1 : Int32)))]) rfl) ?_
    show own_Go p e below _ (T3.setTop (mkF m 53 #[.val (.ref a), .val (.long q), .second, .val (.int (0 : Int32)), .val (.int ((XT.ushr ((0 : Int32) + ((2 : Int32) - (1 : Int32))) (1 : Int32)) - (1 : Int32))), .val (.int (XT.ushr ((0 : Int32) + ((2 : Int32) - (1 : Int32))) (1 : Int32)))] []))
    refine own_go (fun _ => XS.goto X3.here hx rfl (pc0 := 53) (pc' := 13) rfl (hb hby d8_53) (by decide) (by decide)) ?_
    refine own_go (fun _ => XS.iloadN X3.here hx rfl (hb hby d8_13) rfl) ?_
    refine own_go (fun _ => XS.iload X3.here hx rfl (hb hby d8_14) rfl) ?_
    refine own_go (fun _ => XS.icmpYes X3.here hx rfl (pc0 := 16) (pc' := 56) rfl (hb hby d8_16) rfl (XT.ii_gt_t (by decide)) (by decide) (by decide)) ?_
    show own_Go p e below _ (T3.setTop (mkF m 56 #[.val (.ref a), .val (.long q), .second, .val (.int (0 : Int32)), .val (.int ((XT.ushr ((0 : Int32) + ((2 : Int32) - (1 : Int32))) (1 : Int32)) - (1 : Int32))), .val (.int (XT.ushr ((0 : Int32) + ((2 : Int32) - (1 : Int32))) (1 : Int32)))] []))
    refine own_go (fun _ => XS.iloadN X3.here hx rfl (hb hby d8_56) rfl) ?_
    refine own_go (fun _ => XS.iconst X3.here hx rfl (hb hby d8_57)) ?_
    refine own_go (fun _ => XS.isub X3.here hx rfl (hb hby d8_58) rfl) ?_
    have er : ((0 : Int32) - (1 : Int32)) = (-1 : Int32) := by decide
    show own_Go p e below _ (T3.setTop (mkF m 59 #[.val (.ref a), .val (.long q), .second, .val (.int (0 : Int32)), .val (.int ((XT.ushr ((0 : Int32) + ((2 : Int32) - (1 : Int32))) (1 : Int32)) - (1 : Int32))), .val (.int (XT.ushr ((0 : Int32) + ((2 : Int32) - (1 : Int32))) (1 : Int32)))] [(.int ((0 : Int32) - (1 : Int32)))]))
    rw [er]
    exact own_iret X3 hx hlk hret (Or.inl rfl) rfl (hb hby d8_59) (Nat.zero_le _) (Nat.zero_le _) ⟨rfl, e3, rfl⟩
  · skip
    refine own_go (fun _ => XS.ifNo X3.here hx rfl (hb hby d8_36) rfl (XT.ll_gt_f hc0)) ?_
    refine own_go (fun _ => XS.iload X3.here hx rfl (hb hby d8_39) rfl) ?_
    refine own_go (fun _ => XS.iconst X3.here hx rfl (hb hby d8_41)) ?_
    refine own_go (fun _ => XS.iadd X3.here hx rfl (hb hby d8_42) rfl) ?_
    show own_Go p e below _ (T3.setTop (mkF m 43 #[.val (.ref a), .val (.long q), .second, .val (.int (0 : Int32)), .val (.int ((2 : Int32) - (1 : Int32))), .val (.int (XT.ushr ((0 : Int32) + ((2 : Int32) - (1 : Int32))) (1 : Int32)))] [(.int ((XT.ushr ((0 : Int32) + ((2 : Int32) - (1 : Int32))) (1 : Int32)) + (1 : Int32)))]))
    refine own_go (fun _ => XS.istoreN X3.here hx rfl (hb hby d8_43) rfl (l' := #[.val (.ref a), .val (.long q), .second, .val (.int ((XT.ushr ((0 : Int32) + ((2 : Int32) - (1 : Int32))) (1 : Int32)) + (1 : Int32))), .val (.int ((2 : Int32) - (1 : Int32))), .val (.int (XT.ushr ((0 : Int32) + ((2 : Int32) - (1 : Int32))) (1 : Int32)))]) rfl) ?_
    refine own_go (fun _ => XS.goto X3.here hx rfl (pc0 := 44) (pc' := 53) rfl (hb hby d8_44) (by decide) (by decide)) ?_
    refine own_go (fun _ => XS.goto X3.here hx rfl (pc0 := 53) (pc' := 13) rfl (hb hby d8_53) (by decide) (by decide)) ?_
    refine own_go (fun _ => XS.iloadN X3.here hx rfl (hb hby d8_13) rfl) ?_
    show own_Go p e below _ (T3.setTop (mkF m 14 #[.val (.ref a), .val (.long q), .second, .val (.int ((XT.ushr ((0 : Int32) + ((2 : Int32) - (1 : Int32))) (1 : Int32)) + (1 : Int32))), .val (.int ((2 : Int32) - (1 : Int32))), .val (.int (XT.ushr ((0 : Int32) + ((2 : Int32) - (1 : Int32))) (1 : Int32)))] [(.int ((XT.ushr ((0 : Int32) + ((2 : Int32) - (1 : Int32))) (1 : Int32)) + (1 : Int32)))]))
    refine own_go (fun _ => XS.iload X3.here hx rfl (hb hby d8_14) rfl) ?_
    refine own_go (fun _ => XS.icmpNo X3.here hx rfl (hb hby d8_16) rfl (XT.ii_gt_f (by decide))) ?_
    refine own_go (fun _ => XS.iloadN X3.here hx rfl (hb hby d8_19) rfl) ?_
    refine own_go (fun _ => XS.iload X3.here hx rfl (hb hby d8_20) rfl) ?_
    show own_Go p e below _ (T3.setTop (mkF m 22 #[.val (.ref a), .val (.long q), .second, .val (.int ((XT.ushr ((0 : Int32) + ((2 : Int32) - (1 : Int32))) (1 : Int32)) + (1 : Int32))), .val (.int ((2 : Int32) - (1 : Int32))), .val (.int (XT.ushr ((0 : Int32) + ((2 : Int32) - (1 : Int32))) (1 : Int32)))] [(.int ((2 : Int32) - (1 : Int32))), (.int ((XT.ushr ((0 : Int32) + ((2 : Int32) - (1 : Int32))) (1 : Int32)) + (1 : Int32)))]))
    refine own_go (fun _ => XS.iadd X3.here hx rfl (hb hby d8_22) rfl) ?_
    refine own_go (fun _ => XS.iconst X3.here hx rfl (hb hby d8_23)) ?_
    refine own_go (fun _ => XT.iushr X3.here hx rfl (hb hby d8_24) rfl) ?_
    refine own_go (fun _ => XS.istore X3.here hx rfl (hb hby d8_25) rfl (l' := #[.val (.ref a), .val (.long q), .second, .val (.int ((XT.ushr ((0 : Int32) + ((2 : Int32) - (1 : Int32))) (1 : Int32)) + (1 : Int32))), .val (.int ((2 : Int32) - (1 : Int32))), .val (.int (XT.ushr (((XT.ushr ((0 : Int32) + ((2 : Int32) - (1 : Int32))) (1 : Int32)) + (1 : Int32)) + ((2 : Int32) - (1 : Int32))) (1 : Int32)))]) rfl) ?_
    show own_Go p e below _ (T3.setTop (mkF m 27 #[.val (.ref a), .val (.long q), .second, .val (.int ((XT.ushr ((0 : Int32) + ((2 : Int32) - (1 : Int32))) (1 : Int32)) + (1 : Int32))), .val (.int ((2 : Int32) - (1 : Int32))), .val (.int (XT.ushr (((XT.ushr ((0 : Int32) + ((2 : Int32) - (1 : Int32))) (1 : Int32)) + (1 : Int32)) + ((2 : Int32) - (1 : Int32))) (1 : Int32)))] []))
    refine own_go (fun _ => XS.aloadN X3.here hx rfl (hb hby d8_27) rfl rfl) ?_
    obtain ⟨T4, X4, e4, st4⟩ := getF X3 hx hZ hown (host := "") (Or.inl (hw _ (List.mem_of_getElem? (i := 10) rfl))) Via.refl e3 o_from0 (g := (mkF m 28 #[.val (.ref a), .val (.long q), .second, .val (.int ((XT.ushr ((0 : Int32) + ((2 : Int32) - (1 : Int32))) (1 : Int32)) + (1 : Int32))), .val (.int ((2 : Int32) - (1 : Int32))), .val (.int (XT.ushr (((XT.ushr ((0 : Int32) + ((2 : Int32) - (1 : Int32))) (1 : Int32)) + (1 : Int32)) + ((2 : Int32) - (1 : Int32))) (1 : Int32)))] [(.ref a)])) rfl rfl (hb hby d8_28)
    refine own_go st4 ?_
    refine own_go (fun _ => XS.iload X4.here hx rfl (hb hby d8_31) rfl) ?_
    refine own_go (own_ldJ X4 hx hZ e4 f_A0 (g := (mkF m 33 #[.val (.ref a), .val (.long q), .second, .val (.int ((XT.ushr ((0 : Int32) + ((2 : Int32) - (1 : Int32))) (1 : Int32)) + (1 : Int32))), .val (.int ((2 : Int32) - (1 : Int32))), .val (.int (XT.ushr (((XT.ushr ((0 : Int32) + ((2 : Int32) - (1 : Int32))) (1 : Int32)) + (1 : Int32)) + ((2 : Int32) - (1 : Int32))) (1 : Int32)))] [(.int (XT.ushr (((XT.ushr ((0 : Int32) + ((2 : Int32) - (1 : Int32))) (1 : Int32)) + (1 : Int32)) + ((2 : Int32) - (1 : Int32))) (1 : Int32))), (.ref ff)])) rfl rfl (hb hby d8_33) 1 (by decide) (x := (.long f1)) g1) ?_
    show own_Go p e below _ (T4.setTop (mkF m 34 #[.val (.ref a), .val (.long q), .second, .val (.int ((XT.ushr ((0 : Int32) + ((2 : Int32) - (1 : Int32))) (1 : Int32)) + (1 : Int32))), .val (.int ((2 : Int32) - (1 : Int32))), .val (.int (XT.ushr (((XT.ushr ((0 : Int32) + ((2 : Int32) - (1 : Int32))) (1 : Int32)) + (1 : Int32)) + ((2 : Int32) - (1 : Int32))) (1 : Int32)))] [(.long f1)]))
    refine own_go (fun _ => XT.lloadN X4.here hx rfl (hb hby d8_34) rfl) ?_
    refine own_go (fun _ => XT.lcmp X4.here hx rfl (hb hby d8_35) rfl) ?_
    refine own_iteI (fun hc1 => ?_) (fun hc1 => ?_)
    · skip
      refine own_go (fun _ => XS.ifYes X4.here hx rfl (pc0 := 36) (pc' := 47) rfl (hb hby d8_36) rfl (XT.ll_gt_t hc1) (by decide) (by decide)) ?_
      refine own_go (fun _ => XS.iload X4.here hx rfl (hb hby d8_47) rfl) ?_
      show own_Go p e below _ (T4.setTop (mkF m 49 #[.val (.ref a), .val (.long q), .second, .val (.int ((XT.ushr ((0 : Int32) + ((2 : Int32) - (1 : Int32))) (1 : Int32)) + (1 : Int32))), .val (.int ((2 : Int32) - (1 : Int32))), .val (.int (XT.ushr (((XT.ushr ((0 : Int32) + ((2 : Int32) - (1 : Int32))) (1 : Int32)) + (1 : Int32)) + ((2 : Int32) - (1 : Int32))) (1 : Int32)))] [(.int (XT.ushr (((XT.ushr ((0 : Int32) + ((2 : Int32) - (1 : Int32))) (1 : Int32)) + (1 : Int32)) + ((2 : Int32) - (1 : Int32))) (1 : Int32)))]))
      refine own_go (fun _ => XS.iconst X4.here hx rfl (hb hby d8_49)) ?_
      refine own_go (fun _ => XS.isub X4.here hx rfl (hb hby d8_50) rfl) ?_
      refine own_go (fun _ => XS.istore X4.here hx rfl (hb hby d8_51) rfl (l' := #[.val (.ref a), .val (.long q), .second, .val (.int ((XT.ushr ((0 : Int32) + ((2 : Int32) - (1 : Int32))) (1 : Int32)) + (1 : Int32))), .val (.int ((XT.ushr (((XT.ushr ((0 : Int32) + ((2 : Int32) - (1 : Int32))) (1 : Int32)) + (1 : Int32)) + ((2 : Int32) - (1 : Int32))) (1 : Int32)) - (1 : Int32))), .val (.int (XT.ushr (((XT.ushr ((0 : Int32) + ((2 : Int32) - (1 : Int32))) (1 : Int32)) + (1 : Int32)) + ((2 : Int32) - (1 : Int32))) (1 : Int32)))]) rfl) ?_
      refine own_go (fun _ => XS.goto X4.here hx rfl (pc0 := 53) (pc' := 13) rfl (hb hby d8_53) (by decide) (by decide)) ?_
      show own_Go p e below _ (T4.setTop (mkF m 13 #[.val (.ref a), .val (.long q), .second, .val (.int ((XT.ushr ((0 : Int32) + ((2 : Int32) - (1 : Int32))) (1 : Int32)) + (1 : Int32))), .val (.int ((XT.ushr (((XT.ushr ((0 : Int32) + ((2 : Int32) - (1 : Int32))) (1 : Int32)) + (1 : Int32)) + ((2 : Int32) - (1 : Int32))) (1 : Int32)) - (1 : Int32))), .val (.int (XT.ushr (((XT.ushr ((0 : Int32) + ((2 : Int32) - (1 : Int32))) (1 : Int32)) + (1 : Int32)) + ((2 : Int32) - (1 : Int32))) (1 : Int32)))] []))
      refine own_go (fun _ => XS.iloadN X4.here hx rfl (hb hby d8_13) rfl) ?_
      refine own_go (fun _ => XS.iload X4.here hx rfl (hb hby d8_14) rfl) ?_
      refine own_go (fun _ => XS.icmpYes X4.here hx rfl (pc0 := 16) (pc' := 56) rfl (hb hby d8_16) rfl (XT.ii_gt_t (by decide)) (by decide) (by decide)) ?_
      refine own_go (fun _ => XS.iloadN X4.here hx rfl (hb hby d8_56) rfl) ?_
      show own_Go p e below _ (T4.setTop (mkF m 57 #[.val (.ref a), .val (.long q), .second, .val (.int ((XT.ushr ((0 : Int32) + ((2 : Int32) - (1 : Int32))) (1 : Int32)) + (1 : Int32))), .val (.int ((XT.ushr (((XT.ushr ((0 : Int32) + ((2 : Int32) - (1 : Int32))) (1 : Int32)) + (1 : Int32)) + ((2 : Int32) - (1 : Int32))) (1 : Int32)) - (1 : Int32))), .val (.int (XT.ushr (((XT.ushr ((0 : Int32) + ((2 : Int32) - (1 : Int32))) (1 : Int32)) + (1 : Int32)) + ((2 : Int32) - (1 : Int32))) (1 : Int32)))] [(.int ((XT.ushr ((0 : Int32) + ((2 : Int32) - (1 : Int32))) (1 : Int32)) + (1 : Int32)))]))
      refine own_go (fun _ => XS.iconst X4.here hx rfl (hb hby d8_57)) ?_
      refine own_go (fun _ => XS.isub X4.here hx rfl (hb hby d8_58) rfl) ?_
      have er : (((XT.ushr ((0 : Int32) + ((2 : Int32) - (1 : Int32))) (1 : Int32)) + (1 : Int32)) - (1 : Int32)) = (0 : Int32) := by decide
      show own_Go p e below _ (T4.setTop (mkF m 59 #[.val (.ref a), .val (.long q), .second, .val (.int ((XT.ushr ((0 : Int32) + ((2 : Int32) - (1 : Int32))) (1 : Int32)) + (1 : Int32))), .val (.int ((XT.ushr (((XT.ushr ((0 : Int32) + ((2 : Int32) - (1 : Int32))) (1 : Int32)) + (1 : Int32)) + ((2 : Int32) - (1 : Int32))) (1 : Int32)) - (1 : Int32))), .val (.int (XT.ushr (((XT.ushr ((0 : Int32) + ((2 : Int32) - (1 : Int32))) (1 : Int32)) + (1 : Int32)) + ((2 : Int32) - (1 : Int32))) (1 : Int32)))] [(.int (((XT.ushr ((0 : Int32) + ((2 : Int32) - (1 : Int32))) (1 : Int32)) + (1 : Int32)) - (1 : Int32)))]))
      rw [er]
      exact own_iret X4 hx hlk hret (Or.inl rfl) rfl (hb hby d8_59) (Nat.zero_le _) (Nat.zero_le _) ⟨rfl, e4, rfl⟩
    · skip
      refine own_go (fun _ => XS.ifNo X4.here hx rfl (hb hby d8_36) rfl (XT.ll_gt_f hc1)) ?_
      refine own_go (fun _ => XS.iload X4.here hx rfl (hb hby d8_39) rfl) ?_
      refine own_go (fun _ => XS.iconst X4.here hx rfl (hb hby d8_41)) ?_
      refine own_go (fun _ => XS.iadd X4.here hx rfl (hb hby d8_42) rfl) ?_
      show own_Go p e below _ (T4.setTop (mkF m 43 #[.val (.ref a), .val (.long q), .second, .val (.int ((XT.ushr ((0 : Int32) + ((2 : Int32) - (1 : Int32))) (1 : Int32)) + (1 : Int32))), .val (.int ((2 : Int32) - (1 : Int32))), .val (.int (XT.ushr (((XT.ushr ((0 : Int32) + ((2 : Int32) - (1 : Int32))) (1 : Int32)) + (1 : Int32)) + ((2 : Int32) - (1 : Int32))) (1 : Int32)))] [(.int ((XT.ushr (((XT.ushr ((0 : Int32) + ((2 : Int32) - (1 : Int32))) (1 : Int32)) + (1 : Int32)) + ((2 : Int32) - (1 : Int32))) (1 : Int32)) + (1 : Int32)))]))
      refine own_go (fun _ => XS.istoreN X4.here hx rfl (hb hby d8_43) rfl (l' := #[.val (.ref a), .val (.long q), .second, .val (.int ((XT.ushr (((XT.ushr ((0 : Int32) + ((2 : Int32) - (1 : Int32))) (1 : Int32)) + (1 : Int32)) + ((2 : Int32) - (1 : Int32))) (1 : Int32)) + (1 : Int32))), .val (.int ((2 : Int32) - (1 : Int32))), .val (.int (XT.ushr (((XT.ushr ((0 : Int32) + ((2 : Int32) - (1 : Int32))) (1 : Int32)) + (1 : Int32)) + ((2 : Int32) - (1 : Int32))) (1 : Int32)))]) rfl) ?_
      refine own_go (fun _ => XS.goto X4.here hx rfl (pc0 := 44) (pc' := 53) rfl (hb hby d8_44) (by decide) (by decide)) ?_
      refine own_go (fun _ => XS.goto X4.here hx rfl (pc0 := 53) (pc' := 13) rfl (hb hby d8_53) (by decide) (by decide)) ?_
      refine own_go (fun _ => XS.iloadN X4.here hx rfl (hb hby d8_13) rfl) ?_
      show own_Go p e below _ (T4.setTop (mkF m 14 #[.val (.ref a), .val (.long q), .second, .val (.int ((XT.ushr (((XT.ushr ((0 : Int32) + ((2 : Int32) - (1 : Int32))) (1 : Int32)) + (1 : Int32)) + ((2 : Int32) - (1 : Int32))) (1 : Int32)) + (1 : Int32))), .val (.int ((2 : Int32) - (1 : Int32))), .val (.int (XT.ushr (((XT.ushr ((0 : Int32) + ((2 : Int32) - (1 : Int32))) (1 : Int32)) + (1 : Int32)) + ((2 : Int32) - (1 : Int32))) (1 : Int32)))] [(.int ((XT.ushr (((XT.ushr ((0 : Int32) + ((2 : Int32) - (1 : Int32))) (1 : Int32)) + (1 : Int32)) + ((2 : Int32) - (1 : Int32))) (1 : Int32)) + (1 : Int32)))]))
      refine own_go (fun _ => XS.iload X4.here hx rfl (hb hby d8_14) rfl) ?_
      refine own_go (fun _ => XS.icmpYes X4.here hx rfl (pc0 := 16) (pc' := 56) rfl (hb hby d8_16) rfl (XT.ii_gt_t (by decide)) (by decide) (by decide)) ?_
      refine own_go (fun _ => XS.iloadN X4.here hx rfl (hb hby d8_56) rfl) ?_
      refine own_go (fun _ => XS.iconst X4.here hx rfl (hb hby d8_57)) ?_
      show own_Go p e below _ (T4.setTop (mkF m 58 #[.val (.ref a), .val (.long q), .second, .val (.int ((XT.ushr (((XT.ushr ((0 : Int32) + ((2 : Int32) - (1 : Int32))) (1 : Int32)) + (1 : Int32)) + ((2 : Int32) - (1 : Int32))) (1 : Int32)) + (1 : Int32))), .val (.int ((2 : Int32) - (1 : Int32))), .val (.int (XT.ushr (((XT.ushr ((0 : Int32) + ((2 : Int32) - (1 : Int32))) (1 : Int32)) + (1 : Int32)) + ((2 : Int32) - (1 : Int32))) (1 : Int32)))] [(.int (1 : Int32)), (.int ((XT.ushr (((XT.ushr ((0 : Int32) + ((2 : Int32) - (1 : Int32))) (1 : Int32)) + (1 : Int32)) + ((2 : Int32) - (1 : Int32))) (1 : Int32)) + (1 : Int32)))]))
      refine own_go (fun _ => XS.isub X4.here hx rfl (hb hby d8_58) rfl) ?_
      have er : (((XT.ushr (((XT.ushr ((0 : Int32) + ((2 : Int32) - (1 : Int32))) (1 : Int32)) + (1 : Int32)) + ((2 : Int32) - (1 : Int32))) (1 : Int32)) + (1 : Int32)) - (1 : Int32)) = (1 : Int32) := by decide
      show own_Go p e below _ (T4.setTop (mkF m 59 #[.val (.ref a), .val (.long q), .second, .val (.int ((XT.ushr (((XT.ushr ((0 : Int32) + ((2 : Int32) - (1 : Int32))) (1 : Int32)) + (1 : Int32)) + ((2 : Int32) - (1 : Int32))) (1 : Int32)) + (1 : Int32))), .val (.int ((2 : Int32) - (1 : Int32))), .val (.int (XT.ushr (((XT.ushr ((0 : Int32) + ((2 : Int32) - (1 : Int32))) (1 : Int32)) + (1 : Int32)) + ((2 : Int32) - (1 : Int32))) (1 : Int32)))] [(.int (((XT.ushr (((XT.ushr ((0 : Int32) + ((2 : Int32) - (1 : Int32))) (1 : Int32)) + (1 : Int32)) + ((2 : Int32) - (1 : Int32))) (1 : Int32)) + (1 : Int32)) - (1 : Int32)))]))
      rw [er]
      exact own_iret X4 hx hlk hret (Or.inl rfl) rfl (hb hby d8_59) (Nat.zero_le _) (Nat.zero_le _) ⟨rfl, e4, rfl⟩
set_option maxRecDepth 65536 in
set_option maxHeartbeats 40000000 in
theorem own_floor3_con (l : Launch) (Z : State) (a0 : Array Value) (hw : ∀ d ∈ tables_1, d.before a0 Z = true) (a ff ll kk : Addr) (fs ls ks : List Value) (q f0 f1 f2 : Int64) (h0 : Heap) (I0 : own_Ra Z h0 a ff ll kk fs ls ks 3) (g0 : fs[0]? = some (.long f0)) (g1 : fs[1]? = some (.long f1)) (g2 : fs[2]? = some (.long f2)) (ws : List Jvm.Cond) :
    own_Con l Z (⟨"tidemark/protocol/Raises", "floor", "(J)I"⟩ : MethodName) prog_79_method_6_code 6 (some .int) ({ frames := 0, cells := 0, slots := 0, locals := 0 } : Room) #[(.ref a), (.long q)] h0 (own_PQ h0 (.int (if q < f1 then (if q < f0 then (-1 : Int32) else 0) else (if q < f2 then 1 else 2)))) ws := by
  refine own_con (F := fun m => (mkF m 0 #[.val (.ref a), .val (.long q), .second, .unset, .unset, .unset] [])) (own_pn (by first | (simp [plainName, overriddenIn]; done) | decide +kernel)) (fun m => by first | (simp [entryFrame, mkF, argsToLocals, Value.category]; done) | rfl) ?_
  intro p e s m below meth c T X hx hby hml hZ hown hnm hret hlk eT
  show own_Go p e below (own_Out s (own_PQ h0 (.int (if q < f1 then (if q < f0 then (-1 : Int32) else 0) else (if q < f2 then 1 else 2)))) ({ frames := 0, cells := 0, slots := 0, locals := 0 } : Room).cells ({ frames := 0, cells := 0, slots := 0, locals := 0 } : Room).slots) (T.setTop (mkF m 0 #[.val (.ref a), .val (.long q), .second, .unset, .unset, .unset] []))
  obtain ⟨⟨o_E0, f_A0, l_A0, k_A0⟩, ⟨o_from0, o_lead0, o_member0, o_start0, o_end0⟩, ⟨ne_a_ff, ne_a_ll, ne_a_kk, ne_ff_ll, ne_ff_kk, ne_ll_kk⟩⟩ := I0
  refine own_go (fun _ => XS.aloadN X.here hx rfl (hb hby d8_0) rfl rfl) ?_
  obtain ⟨T1, X1, e1, st1⟩ := getF X hx hZ hown (host := "") (Or.inl (hw _ (List.mem_of_getElem? (i := 54) rfl))) Via.refl eT o_start0 (g := (mkF m 1 #[.val (.ref a), .val (.long q), .second, .unset, .unset, .unset] [(.ref a)])) rfl rfl (hb hby d8_1)
  refine own_go st1 ?_
  refine own_go (fun _ => XS.istoreN X1.here hx rfl (hb hby d8_4) rfl (l' := #[.val (.ref a), .val (.long q), .second, .val (.int (0 : Int32)), .unset, .unset]) rfl) ?_
  refine own_go (fun _ => XS.aloadN X1.here hx rfl (hb hby d8_5) rfl rfl) ?_
  show own_Go p e below _ (T1.setTop (mkF m 6 #[.val (.ref a), .val (.long q), .second, .val (.int (0 : Int32)), .unset, .unset] [(.ref a)]))
  obtain ⟨T2, X2, e2, st2⟩ := getF X1 hx hZ hown (host := "") (Or.inl (hw _ (List.mem_of_getElem? (i := 48) rfl))) Via.refl e1 o_end0 (g := (mkF m 6 #[.val (.ref a), .val (.long q), .second, .val (.int (0 : Int32)), .unset, .unset] [(.ref a)])) rfl rfl (hb hby d8_6)
  refine own_go st2 ?_
  refine own_go (fun _ => XS.iconst X2.here hx rfl (hb hby d8_9)) ?_
  refine own_go (fun _ => XS.isub X2.here hx rfl (hb hby d8_10) rfl) ?_
  refine own_go (fun _ => XS.istore X2.here hx rfl (hb hby d8_11) rfl (l' := #[.val (.ref a), .val (.long q), .second, .val (.int (0 : Int32)), .val (.int ((3 : Int32) - (1 : Int32))), .unset]) rfl) ?_
  show own_Go p e below _ (T2.setTop (mkF m 13 #[.val (.ref a), .val (.long q), .second, .val (.int (0 : Int32)), .val (.int ((3 : Int32) - (1 : Int32))), .unset] []))
  refine own_go (fun _ => XS.iloadN X2.here hx rfl (hb hby d8_13) rfl) ?_
  refine own_go (fun _ => XS.iload X2.here hx rfl (hb hby d8_14) rfl) ?_
  refine own_go (fun _ => XS.icmpNo X2.here hx rfl (hb hby d8_16) rfl (XT.ii_gt_f (by decide))) ?_
  refine own_go (fun _ => XS.iloadN X2.here hx rfl (hb hby d8_19) rfl) ?_
  show own_Go p e below _ (T2.setTop (mkF m 20 #[.val (.ref a), .val (.long q), .second, .val (.int (0 : Int32)), .val (.int ((3 : Int32) - (1 : Int32))), .unset] [(.int (0 : Int32))]))
  refine own_go (fun _ => XS.iload X2.here hx rfl (hb hby d8_20) rfl) ?_
  refine own_go (fun _ => XS.iadd X2.here hx rfl (hb hby d8_22) rfl) ?_
  refine own_go (fun _ => XS.iconst X2.here hx rfl (hb hby d8_23)) ?_
  refine own_go (fun _ => XT.iushr X2.here hx rfl (hb hby d8_24) rfl) ?_
  show own_Go p e below _ (T2.setTop (mkF m 25 #[.val (.ref a), .val (.long q), .second, .val (.int (0 : Int32)), .val (.int ((3 : Int32) - (1 : Int32))), .unset] [(.int (XT.ushr ((0 : Int32) + ((3 : Int32) - (1 : Int32))) (1 : Int32)))]))
  refine own_go (fun _ => XS.istore X2.here hx rfl (hb hby d8_25) rfl (l' := #[.val (.ref a), .val (.long q), .second, .val (.int (0 : Int32)), .val (.int ((3 : Int32) - (1 : Int32))), .val (.int (XT.ushr ((0 : Int32) + ((3 : Int32) - (1 : Int32))) (1 : Int32)))]) rfl) ?_
  refine own_go (fun _ => XS.aloadN X2.here hx rfl (hb hby d8_27) rfl rfl) ?_
  obtain ⟨T3, X3, e3, st3⟩ := getF X2 hx hZ hown (host := "") (Or.inl (hw _ (List.mem_of_getElem? (i := 10) rfl))) Via.refl e2 o_from0 (g := (mkF m 28 #[.val (.ref a), .val (.long q), .second, .val (.int (0 : Int32)), .val (.int ((3 : Int32) - (1 : Int32))), .val (.int (XT.ushr ((0 : Int32) + ((3 : Int32) - (1 : Int32))) (1 : Int32)))] [(.ref a)])) rfl rfl (hb hby d8_28)
  refine own_go st3 ?_
  refine own_go (fun _ => XS.iload X3.here hx rfl (hb hby d8_31) rfl) ?_
  show own_Go p e below _ (T3.setTop (mkF m 33 #[.val (.ref a), .val (.long q), .second, .val (.int (0 : Int32)), .val (.int ((3 : Int32) - (1 : Int32))), .val (.int (XT.ushr ((0 : Int32) + ((3 : Int32) - (1 : Int32))) (1 : Int32)))] [(.int (XT.ushr ((0 : Int32) + ((3 : Int32) - (1 : Int32))) (1 : Int32))), (.ref ff)]))
  refine own_go (own_ldJ X3 hx hZ e3 f_A0 (g := (mkF m 33 #[.val (.ref a), .val (.long q), .second, .val (.int (0 : Int32)), .val (.int ((3 : Int32) - (1 : Int32))), .val (.int (XT.ushr ((0 : Int32) + ((3 : Int32) - (1 : Int32))) (1 : Int32)))] [(.int (XT.ushr ((0 : Int32) + ((3 : Int32) - (1 : Int32))) (1 : Int32))), (.ref ff)])) rfl rfl (hb hby d8_33) 1 (by decide) (x := (.long f1)) g1) ?_
  refine own_go (fun _ => XT.lloadN X3.here hx rfl (hb hby d8_34) rfl) ?_
  refine own_go (fun _ => XT.lcmp X3.here hx rfl (hb hby d8_35) rfl) ?_
  refine own_iteI (fun hc1 => ?_) (fun hc1 => ?_)
  · skip
    refine own_go (fun _ => XS.ifYes X3.here hx rfl (pc0 := 36) (pc' := 47) rfl (hb hby d8_36) rfl (XT.ll_gt_t hc1) (by decide) (by decide)) ?_
    show own_Go p e below _ (T3.setTop (mkF m 47 #[.val (.ref a), .val (.long q), .second, .val (.int (0 : Int32)), .val (.int ((3 : Int32) - (1 : Int32))), .val (.int (XT.ushr ((0 : Int32) + ((3 : Int32) - (1 : Int32))) (1 : Int32)))] []))
    refine own_go (fun _ => XS.iload X3.here hx rfl (hb hby d8_47) rfl) ?_
    refine own_go (fun _ => XS.iconst X3.here hx rfl (hb hby d8_49)) ?_
    refine own_go (fun _ => XS.isub X3.here hx rfl (hb hby d8_50) rfl) ?_
    refine own_go (fun _ => XS.istore X3.here hx rfl (hb hby d8_51) rfl (l' := #[.val (.ref a), .val (.long q), .second, .val (.int (0 : Int32)), .val (.int ((XT.ushr ((0 : Int32) + ((3 : Int32) - (1 : Int32))) (1 : Int32)) - (1 : Int32))), .val (.int (XT.ushr ((0 : Int32) + ((3 : Int32) - (1 : Int32))) (1 : Int32)))]) rfl) ?_
    show own_Go p e below _ (T3.setTop (mkF m 53 #[.val (.ref a), .val (.long q), .second, .val (.int (0 : Int32)), .val (.int ((XT.ushr ((0 : Int32) + ((3 : Int32) - (1 : Int32))) (1 : Int32)) - (1 : Int32))), .val (.int (XT.ushr ((0 : Int32) + ((3 : Int32) - (1 : Int32))) (1 : Int32)))] []))
    refine own_go (fun _ => XS.goto X3.here hx rfl (pc0 := 53) (pc' := 13) rfl (hb hby d8_53) (by decide) (by decide)) ?_
    refine own_go (fun _ => XS.iloadN X3.here hx rfl (hb hby d8_13) rfl) ?_
    refine own_go (fun _ => XS.iload X3.here hx rfl (hb hby d8_14) rfl) ?_
    refine own_go (fun _ => XS.icmpNo X3.here hx rfl (hb hby d8_16) rfl (XT.ii_gt_f (by decide))) ?_
    show own_Go p e below _ (T3.setTop (mkF m 19 #[.val (.ref a), .val (.long q), .second, .val (.int (0 : Int32)), .val (.int ((XT.ushr ((0 : Int32) + ((3 : Int32) - (1 : Int32))) (1 : Int32)) - (1 : Int32))), .val (.int (XT.ushr ((0 : Int32) + ((3 : Int32) - (1 : Int32))) (1 : Int32)))] []))
    refine own_go (fun _ => XS.iloadN X3.here hx rfl (hb hby d8_19) rfl) ?_
    refine own_go (fun _ => XS.iload X3.here hx rfl (hb hby d8_20) rfl) ?_
    refine own_go (fun _ => XS.iadd X3.here hx rfl (hb hby d8_22) rfl) ?_
    refine own_go (fun _ => XS.iconst X3.here hx rfl (hb hby d8_23)) ?_
    show own_Go p e below _ (T3.setTop (mkF m 24 #[.val (.ref a), .val (.long q), .second, .val (.int (0 : Int32)), .val (.int ((XT.ushr ((0 : Int32) + ((3 : Int32) - (1 : Int32))) (1 : Int32)) - (1 : Int32))), .val (.int (XT.ushr ((0 : Int32) + ((3 : Int32) - (1 : Int32))) (1 : Int32)))] [(.int (1 : Int32)), (.int ((0 : Int32) + ((XT.ushr ((0 : Int32) + ((3 : Int32) - (1 : Int32))) (1 : Int32)) - (1 : Int32))))]))
    refine own_go (fun _ => XT.iushr X3.here hx rfl (hb hby d8_24) rfl) ?_
    refine own_go (fun _ => XS.istore X3.here hx rfl (hb hby d8_25) rfl (l' := #[.val (.ref a), .val (.long q), .second, .val (.int (0 : Int32)), .val (.int ((XT.ushr ((0 : Int32) + ((3 : Int32) - (1 : Int32))) (1 : Int32)) - (1 : Int32))), .val (.int (XT.ushr ((0 : Int32) + ((XT.ushr ((0 : Int32) + ((3 : Int32) - (1 : Int32))) (1 : Int32)) - (1 : Int32))) (1 : Int32)))]) rfl) ?_
    refine own_go (fun _ => XS.aloadN X3.here hx rfl (hb hby d8_27) rfl rfl) ?_
    obtain ⟨T4, X4, e4, st4⟩ := getF X3 hx hZ hown (host := "") (Or.inl (hw _ (List.mem_of_getElem? (i := 10) rfl))) Via.refl e3 o_from0 (g := (mkF m 28 #[.val (.ref a), .val (.long q), .second, .val (.int (0 : Int32)), .val (.int ((XT.ushr ((0 : Int32) + ((3 : Int32) - (1 : Int32))) (1 : Int32)) - (1 : Int32))), .val (.int (XT.ushr ((0 : Int32) + ((XT.ushr ((0 : Int32) + ((3 : Int32) - (1 : Int32))) (1 : Int32)) - (1 : Int32))) (1 : Int32)))] [(.ref a)])) rfl rfl (hb hby d8_28)
    refine own_go st4 ?_
    show own_Go p e below _ (T4.setTop (mkF m 31 #[.val (.ref a), .val (.long q), .second, .val (.int (0 : Int32)), .val (.int ((XT.ushr ((0 : Int32) + ((3 : Int32) - (1 : Int32))) (1 : Int32)) - (1 : Int32))), .val (.int (XT.ushr ((0 : Int32) + ((XT.ushr ((0 : Int32) + ((3 : Int32) - (1 : Int32))) (1 : Int32)) - (1 : Int32))) (1 : Int32)))] [(.ref ff)]))
    refine own_go (fun _ => XS.iload X4.here hx rfl (hb hby d8_31) rfl) ?_
    refine own_go (own_ldJ X4 hx hZ e4 f_A0 (g := (mkF m 33 #[.val (.ref a), .val (.long q), .second, .val (.int (0 : Int32)), .val (.int ((XT.ushr ((0 : Int32) + ((3 : Int32) - (1 : Int32))) (1 : Int32)) - (1 : Int32))), .val (.int (XT.ushr ((0 : Int32) + ((XT.ushr ((0 : Int32) + ((3 : Int32) - (1 : Int32))) (1 : Int32)) - (1 : Int32))) (1 : Int32)))] [(.int (XT.ushr ((0 : Int32) + ((XT.ushr ((0 : Int32) + ((3 : Int32) - (1 : Int32))) (1 : Int32)) - (1 : Int32))) (1 : Int32))), (.ref ff)])) rfl rfl (hb hby d8_33) 0 (by decide) (x := (.long f0)) g0) ?_
    refine own_go (fun _ => XT.lloadN X4.here hx rfl (hb hby d8_34) rfl) ?_
    refine own_go (fun _ => XT.lcmp X4.here hx rfl (hb hby d8_35) rfl) ?_
    show own_Go p e below _ (T4.setTop (mkF m 36 #[.val (.ref a), .val (.long q), .second, .val (.int (0 : Int32)), .val (.int ((XT.ushr ((0 : Int32) + ((3 : Int32) - (1 : Int32))) (1 : Int32)) - (1 : Int32))), .val (.int (XT.ushr ((0 : Int32) + ((XT.ushr ((0 : Int32) + ((3 : Int32) - (1 : Int32))) (1 : Int32)) - (1 : Int32))) (1 : Int32)))] [(.int (XT.cmpL f0 q))]))
    refine own_iteI (fun hc0 => ?_) (fun hc0 => ?_)
    · skip
      refine own_go (fun _ => XS.ifYes X4.here hx rfl (pc0 := 36) (pc' := 47) rfl (hb hby d8_36) rfl (XT.ll_gt_t hc0) (by decide) (by decide)) ?_
      refine own_go (fun _ => XS.iload X4.here hx rfl (hb hby d8_47) rfl) ?_
      refine own_go (fun _ => XS.iconst X4.here hx rfl (hb hby d8_49)) ?_
      refine own_go (fun _ => XS.isub X4.here hx rfl (hb hby d8_50) rfl) ?_
      show own_Go p e below _ (T4.setTop (mkF m 51 #[.val (.ref a), .val (.long q), .second, .val (.int (0 : Int32)), .val (.int ((XT.ushr ((0 : Int32) + ((3 : Int32) - (1 : Int32))) (1 : Int32)) - (1 : Int32))), .val (.int (XT.ushr ((0 : Int32) + ((XT.ushr ((0 : Int32) + ((3 : Int32) - (1 : Int32))) (1 : Int32)) - (1 : Int32))) (1 : Int32)))] [(.int ((XT.ushr ((0 : Int32) + ((XT.ushr ((0 : Int32) + ((3 : Int32) - (1 : Int32))) (1 : Int32)) - (1 : Int32))) (1 : Int32)) - (1 : Int32)))]))
      refine own_go (fun _ => XS.istore X4.here hx rfl (hb hby d8_51) rfl (l' := #[.val (.ref a), .val (.long q), .second, .val (.int (0 : Int32)), .val (.int ((XT.ushr ((0 : Int32) + ((XT.ushr ((0 : Int32) + ((3 : Int32) - (1 : Int32))) (1 : Int32)) - (1 : Int32))) (1 : Int32)) - (1 : Int32))), .val (.int (XT.ushr ((0 : Int32) + ((XT.ushr ((0 : Int32) + ((3 : Int32) - (1 : Int32))) (1 : Int32)) - (1 : Int32))) (1 : Int32)))]) rfl) ?_
      refine own_go (fun _ => XS.goto X4.here hx rfl (pc0 := 53) (pc' := 13) rfl (hb hby d8_53) (by decide) (by decide)) ?_
      refine own_go (fun _ => XS.iloadN X4.here hx rfl (hb hby d8_13) rfl) ?_
      refine own_go (fun _ => XS.iload X4.here hx rfl (hb hby d8_14) rfl) ?_
      show own_Go p e below _ (T4.setTop (mkF m 16 #[.val (.ref a), .val (.long q), .second, .val (.int (0 : Int32)), .val (.int ((XT.ushr ((0 : Int32) + ((XT.ushr ((0 : Int32) + ((3 : Int32) - (1 : Int32))) (1 : Int32)) - (1 : Int32))) (1 : Int32)) - (1 : Int32))), .val (.int (XT.ushr ((0 : Int32) + ((XT.ushr ((0 : Int32) + ((3 : Int32) - (1 : Int32))) (1 : Int32)) - (1 : Int32))) (1 : Int32)))] [(.int ((XT.ushr ((0 : Int32) + ((XT.ushr ((0 : Int32) + ((3 : Int32) - (1 : Int32))) (1 : Int32)) - (1 : Int32))) (1 : Int32)) - (1 : Int32))), (.int (0 : Int32))]))
      refine own_go (fun _ => XS.icmpYes X4.here hx rfl (pc0 := 16) (pc' := 56) rfl (hb hby d8_16) rfl (XT.ii_gt_t (by decide)) (by decide) (by decide)) ?_
      refine own_go (fun _ => XS.iloadN X4.here hx rfl (hb hby d8_56) rfl) ?_
      refine own_go (fun _ => XS.iconst X4.here hx rfl (hb hby d8_57)) ?_
      refine own_go (fun _ => XS.isub X4.here hx rfl (hb hby d8_58) rfl) ?_
      show own_Go p e below _ (T4.setTop (mkF m 59 #[.val (.ref a), .val (.long q), .second, .val (.int (0 : Int32)), .val (.int ((XT.ushr ((0 : Int32) + ((XT.ushr ((0 : Int32) + ((3 : Int32) - (1 : Int32))) (1 : Int32)) - (1 : Int32))) (1 : Int32)) - (1 : Int32))), .val (.int (XT.ushr ((0 : Int32) + ((XT.ushr ((0 : Int32) + ((3 : Int32) - (1 : Int32))) (1 : Int32)) - (1 : Int32))) (1 : Int32)))] [(.int ((0 : Int32) - (1 : Int32)))]))
      have er : ((0 : Int32) - (1 : Int32)) = (-1 : Int32) := by decide
      show own_Go p e below _ (T4.setTop (mkF m 59 #[.val (.ref a), .val (.long q), .second, .val (.int (0 : Int32)), .val (.int ((XT.ushr ((0 : Int32) + ((XT.ushr ((0 : Int32) + ((3 : Int32) - (1 : Int32))) (1 : Int32)) - (1 : Int32))) (1 : Int32)) - (1 : Int32))), .val (.int (XT.ushr ((0 : Int32) + ((XT.ushr ((0 : Int32) + ((3 : Int32) - (1 : Int32))) (1 : Int32)) - (1 : Int32))) (1 : Int32)))] [(.int ((0 : Int32) - (1 : Int32)))]))
      rw [er]
      exact own_iret X4 hx hlk hret (Or.inl rfl) rfl (hb hby d8_59) (Nat.zero_le _) (Nat.zero_le _) ⟨rfl, e4, rfl⟩
    · skip
      refine own_go (fun _ => XS.ifNo X4.here hx rfl (hb hby d8_36) rfl (XT.ll_gt_f hc0)) ?_
      refine own_go (fun _ => XS.iload X4.here hx rfl (hb hby d8_39) rfl) ?_
      refine own_go (fun _ => XS.iconst X4.here hx rfl (hb hby d8_41)) ?_
      refine own_go (fun _ => XS.iadd X4.here hx rfl (hb hby d8_42) rfl) ?_
      show own_Go p e below _ (T4.setTop (mkF m 43 #[.val (.ref a), .val (.long q), .second, .val (.int (0 : Int32)), .val (.int ((XT.ushr ((0 : Int32) + ((3 : Int32) - (1 : Int32))) (1 : Int32)) - (1 : Int32))), .val (.int (XT.ushr ((0 : Int32) + ((XT.ushr ((0 : Int32) + ((3 : Int32) - (1 : Int32))) (1 : Int32)) - (1 : Int32))) (1 : Int32)))] [(.int ((XT.ushr ((0 : Int32) + ((XT.ushr ((0 : Int32) + ((3 : Int32) - (1 : Int32))) (1 : Int32)) - (1 : Int32))) (1 : Int32)) + (1 : Int32)))]))
      refine own_go (fun _ => XS.istoreN X4.here hx rfl (hb hby d8_43) rfl (l' := #[.val (.ref a), .val (.long q), .second, .val (.int ((XT.ushr ((0 : Int32) + ((XT.ushr ((0 : Int32) + ((3 : Int32) - (1 : Int32))) (1 : Int32)) - (1 : Int32))) (1 : Int32)) + (1 : Int32))), .val (.int ((XT.ushr ((0 : Int32) + ((3 : Int32) - (1 : Int32))) (1 : Int32)) - (1 : Int32))), .val (.int (XT.ushr ((0 : Int32) + ((XT.ushr ((0 : Int32) + ((3 : Int32) - (1 : Int32))) (1 : Int32)) - (1 : Int32))) (1 : Int32)))]) rfl) ?_
      refine own_go (fun _ => XS.goto X4.here hx rfl (pc0 := 44) (pc' := 53) rfl (hb hby d8_44) (by decide) (by decide)) ?_
      refine own_go (fun _ => XS.goto X4.here hx rfl (pc0 := 53) (pc' := 13) rfl (hb hby d8_53) (by decide) (by decide)) ?_
      refine own_go (fun _ => XS.iloadN X4.here hx rfl (hb hby d8_13) rfl) ?_
      show own_Go p e below _ (T4.setTop (mkF m 14 #[.val (.ref a), .val (.long q), .second, .val (.int ((XT.ushr ((0 : Int32) + ((XT.ushr ((0 : Int32) + ((3 : Int32) - (1 : Int32))) (1 : Int32)) - (1 : Int32))) (1 : Int32)) + (1 : Int32))), .val (.int ((XT.ushr ((0 : Int32) + ((3 : Int32) - (1 : Int32))) (1 : Int32)) - (1 : Int32))), .val (.int (XT.ushr ((0 : Int32) + ((XT.ushr ((0 : Int32) + ((3 : Int32) - (1 : Int32))) (1 : Int32)) - (1 : Int32))) (1 : Int32)))] [(.int ((XT.ushr ((0 : Int32) + ((XT.ushr ((0 : Int32) + ((3 : Int32) - (1 : Int32))) (1 : Int32)) - (1 : Int32))) (1 : Int32)) + (1 : Int32)))]))
      refine own_go (fun _ => XS.iload X4.here hx rfl (hb hby d8_14) rfl) ?_
      refine own_go (fun _ => XS.icmpYes X4.here hx rfl (pc0 := 16) (pc' := 56) rfl (hb hby d8_16) rfl (XT.ii_gt_t (by decide)) (by decide) (by decide)) ?_
      refine own_go (fun _ => XS.iloadN X4.here hx rfl (hb hby d8_56) rfl) ?_
      refine own_go (fun _ => XS.iconst X4.here hx rfl (hb hby d8_57)) ?_
      show own_Go p e below _ (T4.setTop (mkF m 58 #[.val (.ref a), .val (.long q), .second, .val (.int ((XT.ushr ((0 : Int32) + ((XT.ushr ((0 : Int32) + ((3 : Int32) - (1 : Int32))) (1 : Int32)) - (1 : Int32))) (1 : Int32)) + (1 : Int32))), .val (.int ((XT.ushr ((0 : Int32) + ((3 : Int32) - (1 : Int32))) (1 : Int32)) - (1 : Int32))), .val (.int (XT.ushr ((0 : Int32) + ((XT.ushr ((0 : Int32) + ((3 : Int32) - (1 : Int32))) (1 : Int32)) - (1 : Int32))) (1 : Int32)))] [(.int (1 : Int32)), (.int ((XT.ushr ((0 : Int32) + ((XT.ushr ((0 : Int32) + ((3 : Int32) - (1 : Int32))) (1 : Int32)) - (1 : Int32))) (1 : Int32)) + (1 : Int32)))]))
      refine own_go (fun _ => XS.isub X4.here hx rfl (hb hby d8_58) rfl) ?_
      have er : (((XT.ushr ((0 : Int32) + ((XT.ushr ((0 : Int32) + ((3 : Int32) - (1 : Int32))) (1 : Int32)) - (1 : Int32))) (1 : Int32)) + (1 : Int32)) - (1 : Int32)) = (0 : Int32) := by decide
      show own_Go p e below _ (T4.setTop (mkF m 59 #[.val (.ref a), .val (.long q), .second, .val (.int ((XT.ushr ((0 : Int32) + ((XT.ushr ((0 : Int32) + ((3 : Int32) - (1 : Int32))) (1 : Int32)) - (1 : Int32))) (1 : Int32)) + (1 : Int32))), .val (.int ((XT.ushr ((0 : Int32) + ((3 : Int32) - (1 : Int32))) (1 : Int32)) - (1 : Int32))), .val (.int (XT.ushr ((0 : Int32) + ((XT.ushr ((0 : Int32) + ((3 : Int32) - (1 : Int32))) (1 : Int32)) - (1 : Int32))) (1 : Int32)))] [(.int (((XT.ushr ((0 : Int32) + ((XT.ushr ((0 : Int32) + ((3 : Int32) - (1 : Int32))) (1 : Int32)) - (1 : Int32))) (1 : Int32)) + (1 : Int32)) - (1 : Int32)))]))
      rw [er]
      exact own_iret X4 hx hlk hret (Or.inl rfl) rfl (hb hby d8_59) (Nat.zero_le _) (Nat.zero_le _) ⟨rfl, e4, rfl⟩
  · skip
    refine own_go (fun _ => XS.ifNo X3.here hx rfl (hb hby d8_36) rfl (XT.ll_gt_f hc1)) ?_
    refine own_go (fun _ => XS.iload X3.here hx rfl (hb hby d8_39) rfl) ?_
    refine own_go (fun _ => XS.iconst X3.here hx rfl (hb hby d8_41)) ?_
    refine own_go (fun _ => XS.iadd X3.here hx rfl (hb hby d8_42) rfl) ?_
    show own_Go p e below _ (T3.setTop (mkF m 43 #[.val (.ref a), .val (.long q), .second, .val (.int (0 : Int32)), .val (.int ((3 : Int32) - (1 : Int32))), .val (.int (XT.ushr ((0 : Int32) + ((3 : Int32) - (1 : Int32))) (1 : Int32)))] [(.int ((XT.ushr ((0 : Int32) + ((3 : Int32) - (1 : Int32))) (1 : Int32)) + (1 : Int32)))]))
    refine own_go (fun _ => XS.istoreN X3.here hx rfl (hb hby d8_43) rfl (l' := #[.val (.ref a), .val (.long q), .second, .val (.int ((XT.ushr ((0 : Int32) + ((3 : Int32) - (1 : Int32))) (1 : Int32)) + (1 : Int32))), .val (.int ((3 : Int32) - (1 : Int32))), .val (.int (XT.ushr ((0 : Int32) + ((3 : Int32) - (1 : Int32))) (1 : Int32)))]) rfl) ?_
    refine own_go (fun _ => XS.goto X3.here hx rfl (pc0 := 44) (pc' := 53) rfl (hb hby d8_44) (by decide) (by decide)) ?_
    refine own_go (fun _ => XS.goto X3.here hx rfl (pc0 := 53) (pc' := 13) rfl (hb hby d8_53) (by decide) (by decide)) ?_
    refine own_go (fun _ => XS.iloadN X3.here hx rfl (hb hby d8_13) rfl) ?_
    show own_Go p e below _ (T3.setTop (mkF m 14 #[.val (.ref a), .val (.long q), .second, .val (.int ((XT.ushr ((0 : Int32) + ((3 : Int32) - (1 : Int32))) (1 : Int32)) + (1 : Int32))), .val (.int ((3 : Int32) - (1 : Int32))), .val (.int (XT.ushr ((0 : Int32) + ((3 : Int32) - (1 : Int32))) (1 : Int32)))] [(.int ((XT.ushr ((0 : Int32) + ((3 : Int32) - (1 : Int32))) (1 : Int32)) + (1 : Int32)))]))
    refine own_go (fun _ => XS.iload X3.here hx rfl (hb hby d8_14) rfl) ?_
    refine own_go (fun _ => XS.icmpNo X3.here hx rfl (hb hby d8_16) rfl (XT.ii_gt_f (by decide))) ?_
    refine own_go (fun _ => XS.iloadN X3.here hx rfl (hb hby d8_19) rfl) ?_
    refine own_go (fun _ => XS.iload X3.here hx rfl (hb hby d8_20) rfl) ?_
    show own_Go p e below _ (T3.setTop (mkF m 22 #[.val (.ref a), .val (.long q), .second, .val (.int ((XT.ushr ((0 : Int32) + ((3 : Int32) - (1 : Int32))) (1 : Int32)) + (1 : Int32))), .val (.int ((3 : Int32) - (1 : Int32))), .val (.int (XT.ushr ((0 : Int32) + ((3 : Int32) - (1 : Int32))) (1 : Int32)))] [(.int ((3 : Int32) - (1 : Int32))), (.int ((XT.ushr ((0 : Int32) + ((3 : Int32) - (1 : Int32))) (1 : Int32)) + (1 : Int32)))]))
    refine own_go (fun _ => XS.iadd X3.here hx rfl (hb hby d8_22) rfl) ?_
    refine own_go (fun _ => XS.iconst X3.here hx rfl (hb hby d8_23)) ?_
    refine own_go (fun _ => XT.iushr X3.here hx rfl (hb hby d8_24) rfl) ?_
    refine own_go (fun _ => XS.istore X3.here hx rfl (hb hby d8_25) rfl (l' := #[.val (.ref a), .val (.long q), .second, .val (.int ((XT.ushr ((0 : Int32) + ((3 : Int32) - (1 : Int32))) (1 : Int32)) + (1 : Int32))), .val (.int ((3 : Int32) - (1 : Int32))), .val (.int (XT.ushr (((XT.ushr ((0 : Int32) + ((3 : Int32) - (1 : Int32))) (1 : Int32)) + (1 : Int32)) + ((3 : Int32) - (1 : Int32))) (1 : Int32)))]) rfl) ?_
    show own_Go p e below _ (T3.setTop (mkF m 27 #[.val (.ref a), .val (.long q), .second, .val (.int ((XT.ushr ((0 : Int32) + ((3 : Int32) - (1 : Int32))) (1 : Int32)) + (1 : Int32))), .val (.int ((3 : Int32) - (1 : Int32))), .val (.int (XT.ushr (((XT.ushr ((0 : Int32) + ((3 : Int32) - (1 : Int32))) (1 : Int32)) + (1 : Int32)) + ((3 : Int32) - (1 : Int32))) (1 : Int32)))] []))
    refine own_go (fun _ => XS.aloadN X3.here hx rfl (hb hby d8_27) rfl rfl) ?_
    obtain ⟨T5, X5, e5, st5⟩ := getF X3 hx hZ hown (host := "") (Or.inl (hw _ (List.mem_of_getElem? (i := 10) rfl))) Via.refl e3 o_from0 (g := (mkF m 28 #[.val (.ref a), .val (.long q), .second, .val (.int ((XT.ushr ((0 : Int32) + ((3 : Int32) - (1 : Int32))) (1 : Int32)) + (1 : Int32))), .val (.int ((3 : Int32) - (1 : Int32))), .val (.int (XT.ushr (((XT.ushr ((0 : Int32) + ((3 : Int32) - (1 : Int32))) (1 : Int32)) + (1 : Int32)) + ((3 : Int32) - (1 : Int32))) (1 : Int32)))] [(.ref a)])) rfl rfl (hb hby d8_28)
    refine own_go st5 ?_
    refine own_go (fun _ => XS.iload X5.here hx rfl (hb hby d8_31) rfl) ?_
    refine own_go (own_ldJ X5 hx hZ e5 f_A0 (g := (mkF m 33 #[.val (.ref a), .val (.long q), .second, .val (.int ((XT.ushr ((0 : Int32) + ((3 : Int32) - (1 : Int32))) (1 : Int32)) + (1 : Int32))), .val (.int ((3 : Int32) - (1 : Int32))), .val (.int (XT.ushr (((XT.ushr ((0 : Int32) + ((3 : Int32) - (1 : Int32))) (1 : Int32)) + (1 : Int32)) + ((3 : Int32) - (1 : Int32))) (1 : Int32)))] [(.int (XT.ushr (((XT.ushr ((0 : Int32) + ((3 : Int32) - (1 : Int32))) (1 : Int32)) + (1 : Int32)) + ((3 : Int32) - (1 : Int32))) (1 : Int32))), (.ref ff)])) rfl rfl (hb hby d8_33) 2 (by decide) (x := (.long f2)) g2) ?_
    show own_Go p e below _ (T5.setTop (mkF m 34 #[.val (.ref a), .val (.long q), .second, .val (.int ((XT.ushr ((0 : Int32) + ((3 : Int32) - (1 : Int32))) (1 : Int32)) + (1 : Int32))), .val (.int ((3 : Int32) - (1 : Int32))), .val (.int (XT.ushr (((XT.ushr ((0 : Int32) + ((3 : Int32) - (1 : Int32))) (1 : Int32)) + (1 : Int32)) + ((3 : Int32) - (1 : Int32))) (1 : Int32)))] [(.long f2)]))
    refine own_go (fun _ => XT.lloadN X5.here hx rfl (hb hby d8_34) rfl) ?_
    refine own_go (fun _ => XT.lcmp X5.here hx rfl (hb hby d8_35) rfl) ?_
    refine own_iteI (fun hc2 => ?_) (fun hc2 => ?_)
    · skip
      refine own_go (fun _ => XS.ifYes X5.here hx rfl (pc0 := 36) (pc' := 47) rfl (hb hby d8_36) rfl (XT.ll_gt_t hc2) (by decide) (by decide)) ?_
      refine own_go (fun _ => XS.iload X5.here hx rfl (hb hby d8_47) rfl) ?_
      show own_Go p e below _ (T5.setTop (mkF m 49 #[.val (.ref a), .val (.long q), .second, .val (.int ((XT.ushr ((0 : Int32) + ((3 : Int32) - (1 : Int32))) (1 : Int32)) + (1 : Int32))), .val (.int ((3 : Int32) - (1 : Int32))), .val (.int (XT.ushr (((XT.ushr ((0 : Int32) + ((3 : Int32) - (1 : Int32))) (1 : Int32)) + (1 : Int32)) + ((3 : Int32) - (1 : Int32))) (1 : Int32)))] [(.int (XT.ushr (((XT.ushr ((0 : Int32) + ((3 : Int32) - (1 : Int32))) (1 : Int32)) + (1 : Int32)) + ((3 : Int32) - (1 : Int32))) (1 : Int32)))]))
      refine own_go (fun _ => XS.iconst X5.here hx rfl (hb hby d8_49)) ?_
      refine own_go (fun _ => XS.isub X5.here hx rfl (hb hby d8_50) rfl) ?_
      refine own_go (fun _ => XS.istore X5.here hx rfl (hb hby d8_51) rfl (l' := #[.val (.ref a), .val (.long q), .second, .val (.int ((XT.ushr ((0 : Int32) + ((3 : Int32) - (1 : Int32))) (1 : Int32)) + (1 : Int32))), .val (.int ((XT.ushr (((XT.ushr ((0 : Int32) + ((3 : Int32) - (1 : Int32))) (1 : Int32)) + (1 : Int32)) + ((3 : Int32) - (1 : Int32))) (1 : Int32)) - (1 : Int32))), .val (.int (XT.ushr (((XT.ushr ((0 : Int32) + ((3 : Int32) - (1 : Int32))) (1 : Int32)) + (1 : Int32)) + ((3 : Int32) - (1 : Int32))) (1 : Int32)))]) rfl) ?_
      refine own_go (fun _ => XS.goto X5.here hx rfl (pc0 := 53) (pc' := 13) rfl (hb hby d8_53) (by decide) (by decide)) ?_
      show own_Go p e below _ (T5.setTop (mkF m 13 #[.val (.ref a), .val (.long q), .second, .val (.int ((XT.ushr ((0 : Int32) + ((3 : Int32) - (1 : Int32))) (1 : Int32)) + (1 : Int32))), .val (.int ((XT.ushr (((XT.ushr ((0 : Int32) + ((3 : Int32) - (1 : Int32))) (1 : Int32)) + (1 : Int32)) + ((3 : Int32) - (1 : Int32))) (1 : Int32)) - (1 : Int32))), .val (.int (XT.ushr (((XT.ushr ((0 : Int32) + ((3 : Int32) - (1 : Int32))) (1 : Int32)) + (1 : Int32)) + ((3 : Int32) - (1 : Int32))) (1 : Int32)))] []))
      refine own_go (fun _ => XS.iloadN X5.here hx rfl (hb hby d8_13) rfl) ?_
      refine own_go (fun _ => XS.iload X5.here hx rfl (hb hby d8_14) rfl) ?_
      refine own_go (fun _ => XS.icmpYes X5.here hx rfl (pc0 := 16) (pc' := 56) rfl (hb hby d8_16) rfl (XT.ii_gt_t (by decide)) (by decide) (by decide)) ?_
      refine own_go (fun _ => XS.iloadN X5.here hx rfl (hb hby d8_56) rfl) ?_
      show own_Go p e below _ (T5.setTop (mkF m 57 #[.val (.ref a), .val (.long q), .second, .val (.int ((XT.ushr ((0 : Int32) + ((3 : Int32) - (1 : Int32))) (1 : Int32)) + (1 : Int32))), .val (.int ((XT.ushr (((XT.ushr ((0 : Int32) + ((3 : Int32) - (1 : Int32))) (1 : Int32)) + (1 : Int32)) + ((3 : Int32) - (1 : Int32))) (1 : Int32)) - (1 : Int32))), .val (.int (XT.ushr (((XT.ushr ((0 : Int32) + ((3 : Int32) - (1 : Int32))) (1 : Int32)) + (1 : Int32)) + ((3 : Int32) - (1 : Int32))) (1 : Int32)))] [(.int ((XT.ushr ((0 : Int32) + ((3 : Int32) - (1 : Int32))) (1 : Int32)) + (1 : Int32)))]))
      refine own_go (fun _ => XS.iconst X5.here hx rfl (hb hby d8_57)) ?_
      refine own_go (fun _ => XS.isub X5.here hx rfl (hb hby d8_58) rfl) ?_
      have er : (((XT.ushr ((0 : Int32) + ((3 : Int32) - (1 : Int32))) (1 : Int32)) + (1 : Int32)) - (1 : Int32)) = (1 : Int32) := by decide
      show own_Go p e below _ (T5.setTop (mkF m 59 #[.val (.ref a), .val (.long q), .second, .val (.int ((XT.ushr ((0 : Int32) + ((3 : Int32) - (1 : Int32))) (1 : Int32)) + (1 : Int32))), .val (.int ((XT.ushr (((XT.ushr ((0 : Int32) + ((3 : Int32) - (1 : Int32))) (1 : Int32)) + (1 : Int32)) + ((3 : Int32) - (1 : Int32))) (1 : Int32)) - (1 : Int32))), .val (.int (XT.ushr (((XT.ushr ((0 : Int32) + ((3 : Int32) - (1 : Int32))) (1 : Int32)) + (1 : Int32)) + ((3 : Int32) - (1 : Int32))) (1 : Int32)))] [(.int (((XT.ushr ((0 : Int32) + ((3 : Int32) - (1 : Int32))) (1 : Int32)) + (1 : Int32)) - (1 : Int32)))]))
      rw [er]
      exact own_iret X5 hx hlk hret (Or.inl rfl) rfl (hb hby d8_59) (Nat.zero_le _) (Nat.zero_le _) ⟨rfl, e5, rfl⟩
    · skip
      refine own_go (fun _ => XS.ifNo X5.here hx rfl (hb hby d8_36) rfl (XT.ll_gt_f hc2)) ?_
      refine own_go (fun _ => XS.iload X5.here hx rfl (hb hby d8_39) rfl) ?_
      refine own_go (fun _ => XS.iconst X5.here hx rfl (hb hby d8_41)) ?_
      refine own_go (fun _ => XS.iadd X5.here hx rfl (hb hby d8_42) rfl) ?_
      show own_Go p e below _ (T5.setTop (mkF m 43 #[.val (.ref a), .val (.long q), .second, .val (.int ((XT.ushr ((0 : Int32) + ((3 : Int32) - (1 : Int32))) (1 : Int32)) + (1 : Int32))), .val (.int ((3 : Int32) - (1 : Int32))), .val (.int (XT.ushr (((XT.ushr ((0 : Int32) + ((3 : Int32) - (1 : Int32))) (1 : Int32)) + (1 : Int32)) + ((3 : Int32) - (1 : Int32))) (1 : Int32)))] [(.int ((XT.ushr (((XT.ushr ((0 : Int32) + ((3 : Int32) - (1 : Int32))) (1 : Int32)) + (1 : Int32)) + ((3 : Int32) - (1 : Int32))) (1 : Int32)) + (1 : Int32)))]))
      refine own_go (fun _ => XS.istoreN X5.here hx rfl (hb hby d8_43) rfl (l' := #[.val (.ref a), .val (.long q), .second, .val (.int ((XT.ushr (((XT.ushr ((0 : Int32) + ((3 : Int32) - (1 : Int32))) (1 : Int32)) + (1 : Int32)) + ((3 : Int32) - (1 : Int32))) (1 : Int32)) + (1 : Int32))), .val (.int ((3 : Int32) - (1 : Int32))), .val (.int (XT.ushr (((XT.ushr ((0 : Int32) + ((3 : Int32) - (1 : Int32))) (1 : Int32)) + (1 : Int32)) + ((3 : Int32) - (1 : Int32))) (1 : Int32)))]) rfl) ?_
      refine own_go (fun _ => XS.goto X5.here hx rfl (pc0 := 44) (pc' := 53) rfl (hb hby d8_44) (by decide) (by decide)) ?_
      refine own_go (fun _ => XS.goto X5.here hx rfl (pc0 := 53) (pc' := 13) rfl (hb hby d8_53) (by decide) (by decide)) ?_
      refine own_go (fun _ => XS.iloadN X5.here hx rfl (hb hby d8_13) rfl) ?_
      show own_Go p e below _ (T5.setTop (mkF m 14 #[.val (.ref a), .val (.long q), .second, .val (.int ((XT.ushr (((XT.ushr ((0 : Int32) + ((3 : Int32) - (1 : Int32))) (1 : Int32)) + (1 : Int32)) + ((3 : Int32) - (1 : Int32))) (1 : Int32)) + (1 : Int32))), .val (.int ((3 : Int32) - (1 : Int32))), .val (.int (XT.ushr (((XT.ushr ((0 : Int32) + ((3 : Int32) - (1 : Int32))) (1 : Int32)) + (1 : Int32)) + ((3 : Int32) - (1 : Int32))) (1 : Int32)))] [(.int ((XT.ushr (((XT.ushr ((0 : Int32) + ((3 : Int32) - (1 : Int32))) (1 : Int32)) + (1 : Int32)) + ((3 : Int32) - (1 : Int32))) (1 : Int32)) + (1 : Int32)))]))
      refine own_go (fun _ => XS.iload X5.here hx rfl (hb hby d8_14) rfl) ?_
      refine own_go (fun _ => XS.icmpYes X5.here hx rfl (pc0 := 16) (pc' := 56) rfl (hb hby d8_16) rfl (XT.ii_gt_t (by decide)) (by decide) (by decide)) ?_
      refine own_go (fun _ => XS.iloadN X5.here hx rfl (hb hby d8_56) rfl) ?_
      refine own_go (fun _ => XS.iconst X5.here hx rfl (hb hby d8_57)) ?_
      show own_Go p e below _ (T5.setTop (mkF m 58 #[.val (.ref a), .val (.long q), .second, .val (.int ((XT.ushr (((XT.ushr ((0 : Int32) + ((3 : Int32) - (1 : Int32))) (1 : Int32)) + (1 : Int32)) + ((3 : Int32) - (1 : Int32))) (1 : Int32)) + (1 : Int32))), .val (.int ((3 : Int32) - (1 : Int32))), .val (.int (XT.ushr (((XT.ushr ((0 : Int32) + ((3 : Int32) - (1 : Int32))) (1 : Int32)) + (1 : Int32)) + ((3 : Int32) - (1 : Int32))) (1 : Int32)))] [(.int (1 : Int32)), (.int ((XT.ushr (((XT.ushr ((0 : Int32) + ((3 : Int32) - (1 : Int32))) (1 : Int32)) + (1 : Int32)) + ((3 : Int32) - (1 : Int32))) (1 : Int32)) + (1 : Int32)))]))
      refine own_go (fun _ => XS.isub X5.here hx rfl (hb hby d8_58) rfl) ?_
      have er : (((XT.ushr (((XT.ushr ((0 : Int32) + ((3 : Int32) - (1 : Int32))) (1 : Int32)) + (1 : Int32)) + ((3 : Int32) - (1 : Int32))) (1 : Int32)) + (1 : Int32)) - (1 : Int32)) = (2 : Int32) := by decide
      show own_Go p e below _ (T5.setTop (mkF m 59 #[.val (.ref a), .val (.long q), .second, .val (.int ((XT.ushr (((XT.ushr ((0 : Int32) + ((3 : Int32) - (1 : Int32))) (1 : Int32)) + (1 : Int32)) + ((3 : Int32) - (1 : Int32))) (1 : Int32)) + (1 : Int32))), .val (.int ((3 : Int32) - (1 : Int32))), .val (.int (XT.ushr (((XT.ushr ((0 : Int32) + ((3 : Int32) - (1 : Int32))) (1 : Int32)) + (1 : Int32)) + ((3 : Int32) - (1 : Int32))) (1 : Int32)))] [(.int (((XT.ushr (((XT.ushr ((0 : Int32) + ((3 : Int32) - (1 : Int32))) (1 : Int32)) + (1 : Int32)) + ((3 : Int32) - (1 : Int32))) (1 : Int32)) + (1 : Int32)) - (1 : Int32)))]))
      rw [er]
      exact own_iret X5 hx hlk hret (Or.inl rfl) rfl (hb hby d8_59) (Nat.zero_le _) (Nat.zero_le _) ⟨rfl, e5, rfl⟩
theorem d9_0 : decode prog_79_method_7_code 0 = .ok (.aload_n 0, 1) := by decide +kernel
theorem d9_1 : decode prog_79_method_7_code 1 = .ok (.getfield 13, 3) := by decide +kernel
theorem d9_4 : decode prog_79_method_7_code 4 = .ok (.iload_n 1, 1) := by decide +kernel
theorem d9_5 : decode prog_79_method_7_code 5 = .ok (.laload, 1) := by decide +kernel
theorem d9_6 : decode prog_79_method_7_code 6 = .ok (.lload_n 2, 1) := by decide +kernel
theorem d9_7 : decode prog_79_method_7_code 7 = .ok (.invokestatic 60, 3) := by decide +kernel
theorem d9_10 : decode prog_79_method_7_code 10 = .ok (.istore 5, 2) := by decide +kernel
theorem d9_12 : decode prog_79_method_7_code 12 = .ok (.iload 5, 2) := by decide +kernel
theorem d9_14 : decode prog_79_method_7_code 14 = .ok (.ifCond .eq 8, 3) := by decide +kernel
theorem d9_17 : decode prog_79_method_7_code 17 = .ok (.iload 5, 2) := by decide +kernel
theorem d9_19 : decode prog_79_method_7_code 19 = .ok (.goto 14, 3) := by decide +kernel
theorem d9_33 : decode prog_79_method_7_code 33 = .ok (.ireturn, 1) := by decide +kernel
set_option maxRecDepth 65536 in
set_option maxHeartbeats 40000000 in
theorem own_compare_con (l : Launch) (Z : State) (a0 : Array Value) (hw : ∀ d ∈ tables_1, d.before a0 Z = true) (a ff ll kk : Addr) (fs ls ks : List Value) (n i z : Int32) (j : Nat) (u v : Int64) (h0 : Heap) (I0 : own_Ra Z h0 a ff ll kk fs ls ks n) (hi : i.toInt = j) (hu : ls[j]? = some (.long u)) (hlt : u < v) (ws : List Jvm.Cond) :
    own_Con l Z (⟨"tidemark/protocol/Raises", "compare", "(IJI)I"⟩ : MethodName) prog_79_method_7_code 6 (some .int) ({ frames := 1, cells := 0, slots := 0, locals := 40 } : Room) #[(.ref a), (.int i), (.long v), (.int z)] h0 (own_PQ h0 (.int (-1))) ws := by
  refine own_con (F := fun m => (mkF m 0 #[.val (.ref a), .val (.int i), .val (.long v), .second, .val (.int z), .unset] [])) (own_pn (by first | (simp [plainName, overriddenIn]; done) | decide +kernel)) (fun m => by first | (simp [entryFrame, mkF, argsToLocals, Value.category]; done) | rfl) ?_
  intro p e s m below meth c T X hx hby hml hZ hown hnm hret hlk eT
  show own_Go p e below (own_Out s (own_PQ h0 (.int (-1))) ({ frames := 1, cells := 0, slots := 0, locals := 40 } : Room).cells ({ frames := 1, cells := 0, slots := 0, locals := 40 } : Room).slots) (T.setTop (mkF m 0 #[.val (.ref a), .val (.int i), .val (.long v), .second, .val (.int z), .unset] []))
  obtain ⟨⟨o_E0, f_A0, l_A0, k_A0⟩, ⟨o_from0, o_lead0, o_member0, o_start0, o_end0⟩, ⟨ne_a_ff, ne_a_ll, ne_a_kk, ne_ff_ll, ne_ff_kk, ne_ll_kk⟩⟩ := I0
  refine own_go (fun _ => XS.aloadN X.here hx rfl (hb hby d9_0) rfl rfl) ?_
  obtain ⟨T1, X1, e1, st1⟩ := getF X hx hZ hown (host := "") (Or.inl (hw _ (List.mem_of_getElem? (i := 12) rfl))) Via.refl eT o_lead0 (g := (mkF m 1 #[.val (.ref a), .val (.int i), .val (.long v), .second, .val (.int z), .unset] [(.ref a)])) rfl rfl (hb hby d9_1)
  refine own_go st1 ?_
  refine own_go (fun _ => XS.iloadN X1.here hx rfl (hb hby d9_4) rfl) ?_
  refine own_go (own_ldJ X1 hx hZ e1 l_A0 (g := (mkF m 5 #[.val (.ref a), .val (.int i), .val (.long v), .second, .val (.int z), .unset] [(.int i), (.ref ll)])) rfl rfl (hb hby d9_5) j hi (x := (.long u)) hu) ?_
  show own_Go p e below _ (T1.setTop (mkF m 6 #[.val (.ref a), .val (.int i), .val (.long v), .second, .val (.int z), .unset] [(.long u)]))
  refine own_go (fun _ => XT.lloadN X1.here hx rfl (hb hby d9_6) rfl) ?_
  obtain ⟨T2, X2, e2, st2⟩ := own_callSP X1 hx hZ hown (argsL := [(.long u), (.long v)]) (rest := []) (own_lcmp_con l Z a0 hw u v h0 []) e1 (hw _ (List.mem_of_getElem? (i := 65) rfl)) (hw _ (List.mem_of_getElem? (i := 66) rfl)) (hw _ (List.mem_of_getElem? (i := 67) rfl)) (hw _ (List.mem_of_getElem? (i := 68) rfl)) (by decide) (by decide +kernel : parseMethodDescriptor "(JJ)I" = some ⟨[.long, .long], some .int⟩) rfl (g := (mkF m 7 #[.val (.ref a), .val (.int i), .val (.long v), .second, .val (.int z), .unset] [(.long v), (.long u)])) rfl (by rw [hml]; rfl) rfl 0 (by show 2 * 0 + _ ≤ _; exact Nat.le_of_eq rfl) (hb hby d9_7) (by decide) (by decide) rfl rfl (by decide) (by decide)
  refine own_go st2 ?_
  show own_Go p e below _ (T2.setTop (mkF m 10 #[.val (.ref a), .val (.int i), .val (.long v), .second, .val (.int z), .unset] [(.int (own_lcmp u v))]))
  rw [own_lcmp_lt hlt]
  refine own_go (fun _ => XS.istore X2.here hx rfl (hb hby d9_10) rfl (l' := #[.val (.ref a), .val (.int i), .val (.long v), .second, .val (.int z), .val (.int (-1 : Int32))]) rfl) ?_
  refine own_go (fun _ => XS.iload X2.here hx rfl (hb hby d9_12) rfl) ?_
  refine own_go (fun _ => XS.ifNo X2.here hx rfl (hb hby d9_14) rfl (XT.i0_eq_f (by decide))) ?_
  show own_Go p e below _ (T2.setTop (mkF m 17 #[.val (.ref a), .val (.int i), .val (.long v), .second, .val (.int z), .val (.int (-1 : Int32))] []))
  refine own_go (fun _ => XS.iload X2.here hx rfl (hb hby d9_17) rfl) ?_
  refine own_go (fun _ => XS.goto X2.here hx rfl (pc0 := 19) (pc' := 33) rfl (hb hby d9_19) (by decide) (by decide)) ?_
  exact own_iret X2 hx hlk hret (Or.inl rfl) rfl (hb hby d9_33) (Nat.zero_le _) (Nat.zero_le _) ⟨rfl, e2, rfl⟩
theorem own_cut0 (vs : List Value) (i j : Nat) : vs.take j ++ (vs.drop i).take 0 ++ vs.drop (j + 0) = vs := by simp
theorem d5_0 : decode prog_79_method_2_code 0 = .ok (.aload_n 3, 1) := by decide +kernel
theorem d5_1 : decode prog_79_method_2_code 1 = .ok (.invokevirtual 20, 3) := by decide +kernel
theorem d5_4 : decode prog_79_method_2_code 4 = .ok (.lload_n 1, 1) := by decide +kernel
theorem d5_5 : decode prog_79_method_2_code 5 = .ok (.lsub, 1) := by decide +kernel
theorem d5_6 : decode prog_79_method_2_code 6 = .ok (.lstore 4, 2) := by decide +kernel
theorem d5_8 : decode prog_79_method_2_code 8 = .ok (.aload_n 3, 1) := by decide +kernel
theorem d5_9 : decode prog_79_method_2_code 9 = .ok (.invokevirtual 26, 3) := by decide +kernel
theorem d5_12 : decode prog_79_method_2_code 12 = .ok (.istore 6, 2) := by decide +kernel
theorem d5_14 : decode prog_79_method_2_code 14 = .ok (.aload_n 0, 1) := by decide +kernel
theorem d5_15 : decode prog_79_method_2_code 15 = .ok (.getfield 29, 3) := by decide +kernel
theorem d5_18 : decode prog_79_method_2_code 18 = .ok (.aload_n 0, 1) := by decide +kernel
theorem d5_19 : decode prog_79_method_2_code 19 = .ok (.getfield 7, 3) := by decide +kernel
theorem d5_22 : decode prog_79_method_2_code 22 = .ok (.arraylength, 1) := by decide +kernel
theorem d5_23 : decode prog_79_method_2_code 23 = .ok (.if_icmp .ne 7, 3) := by decide +kernel
theorem d5_30 : decode prog_79_method_2_code 30 = .ok (.aload_n 0, 1) := by decide +kernel
theorem d5_31 : decode prog_79_method_2_code 31 = .ok (.lload_n 1, 1) := by decide +kernel
theorem d5_32 : decode prog_79_method_2_code 32 = .ok (.invokevirtual 36, 3) := by decide +kernel
theorem d5_35 : decode prog_79_method_2_code 35 = .ok (.istore 7, 2) := by decide +kernel
theorem d5_37 : decode prog_79_method_2_code 37 = .ok (.iload 7, 2) := by decide +kernel
theorem d5_39 : decode prog_79_method_2_code 39 = .ok (.aload_n 0, 1) := by decide +kernel
theorem d5_40 : decode prog_79_method_2_code 40 = .ok (.getfield 40, 3) := by decide +kernel
theorem d5_43 : decode prog_79_method_2_code 43 = .ok (.if_icmp .lt 17, 3) := by decide +kernel
theorem d5_46 : decode prog_79_method_2_code 46 = .ok (.aload_n 0, 1) := by decide +kernel
theorem d5_47 : decode prog_79_method_2_code 47 = .ok (.iload 7, 2) := by decide +kernel
theorem d5_49 : decode prog_79_method_2_code 49 = .ok (.lload 4, 2) := by decide +kernel
theorem d5_51 : decode prog_79_method_2_code 51 = .ok (.iload 6, 2) := by decide +kernel
theorem d5_53 : decode prog_79_method_2_code 53 = .ok (.invokevirtual 43, 3) := by decide +kernel
theorem d5_56 : decode prog_79_method_2_code 56 = .ok (.ifCond .lt 4, 3) := by decide +kernel
theorem d5_60 : decode prog_79_method_2_code 60 = .ok (.iload 7, 2) := by decide +kernel
theorem d5_62 : decode prog_79_method_2_code 62 = .ok (.aload_n 0, 1) := by decide +kernel
theorem d5_63 : decode prog_79_method_2_code 63 = .ok (.getfield 40, 3) := by decide +kernel
theorem d5_66 : decode prog_79_method_2_code 66 = .ok (.if_icmp .lt 20, 3) := by decide +kernel
theorem d5_69 : decode prog_79_method_2_code 69 = .ok (.aload_n 0, 1) := by decide +kernel
theorem d5_70 : decode prog_79_method_2_code 70 = .ok (.getfield 7, 3) := by decide +kernel
theorem d5_73 : decode prog_79_method_2_code 73 = .ok (.iload 7, 2) := by decide +kernel
theorem d5_75 : decode prog_79_method_2_code 75 = .ok (.laload, 1) := by decide +kernel
theorem d5_76 : decode prog_79_method_2_code 76 = .ok (.lload_n 1, 1) := by decide +kernel
theorem d5_77 : decode prog_79_method_2_code 77 = .ok (.lcmp, 1) := by decide +kernel
theorem d5_78 : decode prog_79_method_2_code 78 = .ok (.ifCond .ne 8, 3) := by decide +kernel
theorem d5_86 : decode prog_79_method_2_code 86 = .ok (.iload 7, 2) := by decide +kernel
theorem d5_88 : decode prog_79_method_2_code 88 = .ok (.iconst 1, 1) := by decide +kernel
theorem d5_89 : decode prog_79_method_2_code 89 = .ok (.iadd, 1) := by decide +kernel
theorem d5_90 : decode prog_79_method_2_code 90 = .ok (.istore 8, 2) := by decide +kernel
theorem d5_92 : decode prog_79_method_2_code 92 = .ok (.iload 7, 2) := by decide +kernel
theorem d5_94 : decode prog_79_method_2_code 94 = .ok (.iconst 1, 1) := by decide +kernel
theorem d5_95 : decode prog_79_method_2_code 95 = .ok (.iadd, 1) := by decide +kernel
theorem d5_96 : decode prog_79_method_2_code 96 = .ok (.istore 9, 2) := by decide +kernel
theorem d5_98 : decode prog_79_method_2_code 98 = .ok (.iload 9, 2) := by decide +kernel
theorem d5_100 : decode prog_79_method_2_code 100 = .ok (.aload_n 0, 1) := by decide +kernel
theorem d5_101 : decode prog_79_method_2_code 101 = .ok (.getfield 29, 3) := by decide +kernel
theorem d5_104 : decode prog_79_method_2_code 104 = .ok (.if_icmp .ge 22, 3) := by decide +kernel
theorem d5_126 : decode prog_79_method_2_code 126 = .ok (.aload_n 0, 1) := by decide +kernel
theorem d5_127 : decode prog_79_method_2_code 127 = .ok (.getfield 7, 3) := by decide +kernel
theorem d5_130 : decode prog_79_method_2_code 130 = .ok (.iload 9, 2) := by decide +kernel
theorem d5_132 : decode prog_79_method_2_code 132 = .ok (.aload_n 0, 1) := by decide +kernel
theorem d5_133 : decode prog_79_method_2_code 133 = .ok (.getfield 7, 3) := by decide +kernel
theorem d5_136 : decode prog_79_method_2_code 136 = .ok (.iload 8, 2) := by decide +kernel
theorem d5_138 : decode prog_79_method_2_code 138 = .ok (.iconst 1, 1) := by decide +kernel
theorem d5_139 : decode prog_79_method_2_code 139 = .ok (.iadd, 1) := by decide +kernel
theorem d5_140 : decode prog_79_method_2_code 140 = .ok (.aload_n 0, 1) := by decide +kernel
theorem d5_141 : decode prog_79_method_2_code 141 = .ok (.getfield 29, 3) := by decide +kernel
theorem d5_144 : decode prog_79_method_2_code 144 = .ok (.iload 9, 2) := by decide +kernel
theorem d5_146 : decode prog_79_method_2_code 146 = .ok (.isub, 1) := by decide +kernel
theorem d5_147 : decode prog_79_method_2_code 147 = .ok (.invokestatic 47, 3) := by decide +kernel
theorem d5_150 : decode prog_79_method_2_code 150 = .ok (.aload_n 0, 1) := by decide +kernel
theorem d5_151 : decode prog_79_method_2_code 151 = .ok (.getfield 13, 3) := by decide +kernel
theorem d5_154 : decode prog_79_method_2_code 154 = .ok (.iload 9, 2) := by decide +kernel
theorem d5_156 : decode prog_79_method_2_code 156 = .ok (.aload_n 0, 1) := by decide +kernel
theorem d5_157 : decode prog_79_method_2_code 157 = .ok (.getfield 13, 3) := by decide +kernel
theorem d5_160 : decode prog_79_method_2_code 160 = .ok (.iload 8, 2) := by decide +kernel
theorem d5_162 : decode prog_79_method_2_code 162 = .ok (.iconst 1, 1) := by decide +kernel
theorem d5_163 : decode prog_79_method_2_code 163 = .ok (.iadd, 1) := by decide +kernel
theorem d5_164 : decode prog_79_method_2_code 164 = .ok (.aload_n 0, 1) := by decide +kernel
theorem d5_165 : decode prog_79_method_2_code 165 = .ok (.getfield 29, 3) := by decide +kernel
theorem d5_168 : decode prog_79_method_2_code 168 = .ok (.iload 9, 2) := by decide +kernel
theorem d5_170 : decode prog_79_method_2_code 170 = .ok (.isub, 1) := by decide +kernel
theorem d5_171 : decode prog_79_method_2_code 171 = .ok (.invokestatic 47, 3) := by decide +kernel
theorem d5_174 : decode prog_79_method_2_code 174 = .ok (.aload_n 0, 1) := by decide +kernel
theorem d5_175 : decode prog_79_method_2_code 175 = .ok (.getfield 16, 3) := by decide +kernel
theorem d5_178 : decode prog_79_method_2_code 178 = .ok (.iload 9, 2) := by decide +kernel
theorem d5_180 : decode prog_79_method_2_code 180 = .ok (.aload_n 0, 1) := by decide +kernel
theorem d5_181 : decode prog_79_method_2_code 181 = .ok (.getfield 16, 3) := by decide +kernel
theorem d5_184 : decode prog_79_method_2_code 184 = .ok (.iload 8, 2) := by decide +kernel
theorem d5_186 : decode prog_79_method_2_code 186 = .ok (.iconst 1, 1) := by decide +kernel
theorem d5_187 : decode prog_79_method_2_code 187 = .ok (.iadd, 1) := by decide +kernel
theorem d5_188 : decode prog_79_method_2_code 188 = .ok (.aload_n 0, 1) := by decide +kernel
theorem d5_189 : decode prog_79_method_2_code 189 = .ok (.getfield 29, 3) := by decide +kernel
theorem d5_192 : decode prog_79_method_2_code 192 = .ok (.iload 9, 2) := by decide +kernel
theorem d5_194 : decode prog_79_method_2_code 194 = .ok (.isub, 1) := by decide +kernel
theorem d5_195 : decode prog_79_method_2_code 195 = .ok (.invokestatic 47, 3) := by decide +kernel
theorem d5_198 : decode prog_79_method_2_code 198 = .ok (.aload_n 0, 1) := by decide +kernel
theorem d5_199 : decode prog_79_method_2_code 199 = .ok (.iload 8, 2) := by decide +kernel
theorem d5_201 : decode prog_79_method_2_code 201 = .ok (.iconst 1, 1) := by decide +kernel
theorem d5_202 : decode prog_79_method_2_code 202 = .ok (.iadd, 1) := by decide +kernel
theorem d5_203 : decode prog_79_method_2_code 203 = .ok (.aload_n 0, 1) := by decide +kernel
theorem d5_204 : decode prog_79_method_2_code 204 = .ok (.getfield 29, 3) := by decide +kernel
theorem d5_207 : decode prog_79_method_2_code 207 = .ok (.iadd, 1) := by decide +kernel
theorem d5_208 : decode prog_79_method_2_code 208 = .ok (.iload 9, 2) := by decide +kernel
theorem d5_210 : decode prog_79_method_2_code 210 = .ok (.isub, 1) := by decide +kernel
theorem d5_211 : decode prog_79_method_2_code 211 = .ok (.putfield 29, 3) := by decide +kernel
theorem d5_214 : decode prog_79_method_2_code 214 = .ok (.aload_n 0, 1) := by decide +kernel
theorem d5_215 : decode prog_79_method_2_code 215 = .ok (.getfield 7, 3) := by decide +kernel
theorem d5_218 : decode prog_79_method_2_code 218 = .ok (.iload 8, 2) := by decide +kernel
theorem d5_220 : decode prog_79_method_2_code 220 = .ok (.lload_n 1, 1) := by decide +kernel
theorem d5_221 : decode prog_79_method_2_code 221 = .ok (.lastore, 1) := by decide +kernel
theorem d5_222 : decode prog_79_method_2_code 222 = .ok (.aload_n 0, 1) := by decide +kernel
theorem d5_223 : decode prog_79_method_2_code 223 = .ok (.getfield 13, 3) := by decide +kernel
theorem d5_226 : decode prog_79_method_2_code 226 = .ok (.iload 8, 2) := by decide +kernel
theorem d5_228 : decode prog_79_method_2_code 228 = .ok (.lload 4, 2) := by decide +kernel
theorem d5_230 : decode prog_79_method_2_code 230 = .ok (.lastore, 1) := by decide +kernel
theorem d5_231 : decode prog_79_method_2_code 231 = .ok (.aload_n 0, 1) := by decide +kernel
theorem d5_232 : decode prog_79_method_2_code 232 = .ok (.getfield 16, 3) := by decide +kernel
theorem d5_235 : decode prog_79_method_2_code 235 = .ok (.iload 8, 2) := by decide +kernel
theorem d5_237 : decode prog_79_method_2_code 237 = .ok (.iload 6, 2) := by decide +kernel
theorem d5_239 : decode prog_79_method_2_code 239 = .ok (.iastore, 1) := by decide +kernel
theorem d5_240 : decode prog_79_method_2_code 240 = .ok (.return_, 1) := by decide +kernel
set_option maxRecDepth 65536 in
set_option maxHeartbeats 40000000 in
theorem own_add0_con (l : Launch) (Z : State) (a0 : Array Value) (hw : ∀ d ∈ tables_1, d.before a0 Z = true) (a ff ll kk : Addr) (fs ls ks : List Value) (st : Addr) (q cn : Int64) (k : Int32) (n0 : Nat) (h0 : Heap) (I0 : own_Ra Z h0 a ff ll kk fs ls ks 0) (lf : fs.length = 8) (lL : ls.length = 8) (lk : ks.length = 8) (S0 : own_Stamp Z h0 st cn k)  (ga : n0 ≤ a) (gf : n0 ≤ ff) (gl : n0 ≤ ll) (gk : n0 ≤ kk) (ws : List Jvm.Cond) :
    own_Con l Z (⟨"tidemark/protocol/Raises", "add", "(JLtidemark/model/Stamp;)V"⟩ : MethodName) prog_79_method_2_code 10 none ({ frames := 2, cells := 0, slots := 0, locals := 80 } : Room) #[(.ref a), (.long q), (.ref st)] h0 (fun v h L => v = none ∧ Fr n0 L ∧ Keep h0 h [a, ff, ll, kk] ∧ own_Ra Z h a ff ll kk (fs.set 0 (.long q)) (ls.set 0 (.long (cn - q))) (ks.set 0 (.int k)) 1) ws := by
  refine own_con (F := fun m => (mkF m 0 #[.val (.ref a), .val (.long q), .second, .val (.ref st), .unset, .unset, .unset, .unset, .unset, .unset] [])) (own_pn (by first | (simp [plainName, overriddenIn]; done) | decide +kernel)) (fun m => by first | (simp [entryFrame, mkF, argsToLocals, Value.category]; done) | rfl) ?_
  intro p e s m below meth c T X hx hby hml hZ hown hnm hret hlk eT
  show own_Go p e below (own_Out s (fun v h L => v = none ∧ Fr n0 L ∧ Keep h0 h [a, ff, ll, kk] ∧ own_Ra Z h a ff ll kk (fs.set 0 (.long q)) (ls.set 0 (.long (cn - q))) (ks.set 0 (.int k)) 1) ({ frames := 2, cells := 0, slots := 0, locals := 80 } : Room).cells ({ frames := 2, cells := 0, slots := 0, locals := 80 } : Room).slots) (T.setTop (mkF m 0 #[.val (.ref a), .val (.long q), .second, .val (.ref st), .unset, .unset, .unset, .unset, .unset, .unset] []))
  have I1 := I0
  obtain ⟨⟨o_E0, f_A0, l_A0, k_A0⟩, ⟨o_from0, o_lead0, o_member0, o_start0, o_end0⟩, ⟨ne_a_ff, ne_a_ll, ne_a_kk, ne_ff_ll, ne_ff_kk, ne_ll_kk⟩⟩ := I0
  have N0 := Fr.nil n0
  have K0 := Keep.refl h0 [a, ff, ll, kk]
  have st_E := S0.1
  refine own_go (fun _ => XS.aloadN X.here hx rfl (hb hby d5_0) rfl rfl) ?_
  obtain ⟨_, T1, L1, X1, ⟨rfl, eh1, rfl⟩, st1⟩ := own_callV X hx hZ hown (argsL := []) (rest := []) (own_counter_con l Z a0 hw st cn k h0 S0 []) eT st_E (hw _ (List.mem_of_getElem? (i := 38) rfl)) (hw _ (List.mem_of_getElem? (i := 39) rfl)) (hw _ (List.mem_of_getElem? (i := 41) rfl)) (hw _ (List.mem_of_getElem? (i := 40) rfl)) (hw _ (List.mem_of_getElem? (i := 19) rfl)) (hw _ (List.mem_of_getElem? (i := 42) rfl)) (notFace_of_selects (args := #[]) (mvT hZ (hw _ (List.mem_of_getElem? (i := 41) rfl)))) (by decide) (by decide +kernel : parseMethodDescriptor "()J" = some ⟨[], some .long⟩) rfl (g := (mkF m 1 #[.val (.ref a), .val (.long q), .second, .val (.ref st), .unset, .unset, .unset, .unset, .unset, .unset] [(.ref st)])) rfl (by rw [hml]; rfl) rfl 0 (by show 2 * 0 + _ ≤ _; exact Nat.le_of_eq rfl) (hb hby d5_1) (by decide) (by decide) (by decide) (by decide)
  rw [List.append_nil] at X1
  refine own_go st1 ?_
  refine own_go (fun _ => XT.lloadN X1.here hx rfl (hb hby d5_4) rfl) ?_
  refine own_go (fun _ => XT.lsub X1.here hx rfl (hb hby d5_5) rfl) ?_
  show own_Go p e below _ (T1.setTop (mkF m 6 #[.val (.ref a), .val (.long q), .second, .val (.ref st), .unset, .unset, .unset, .unset, .unset, .unset] [(.long (cn - q))]))
  refine own_go (fun _ => XT.lstore X1.here hx rfl (hb hby d5_6) rfl (l' := #[.val (.ref a), .val (.long q), .second, .val (.ref st), .val (.long (cn - q)), .second, .unset, .unset, .unset, .unset]) rfl) ?_
  refine own_go (fun _ => XS.aloadN X1.here hx rfl (hb hby d5_8) rfl rfl) ?_
  obtain ⟨_, T2, L2, X2, ⟨rfl, eh2, rfl⟩, st2⟩ := own_callV X1 hx hZ hown (argsL := []) (rest := []) (own_member_con l Z a0 hw st cn k h0 S0 []) eh1 st_E (hw _ (List.mem_of_getElem? (i := 43) rfl)) (hw _ (List.mem_of_getElem? (i := 44) rfl)) (hw _ (List.mem_of_getElem? (i := 46) rfl)) (hw _ (List.mem_of_getElem? (i := 45) rfl)) (hw _ (List.mem_of_getElem? (i := 19) rfl)) (hw _ (List.mem_of_getElem? (i := 47) rfl)) (notFace_of_selects (args := #[]) (mvT hZ (hw _ (List.mem_of_getElem? (i := 46) rfl)))) (by decide) (by decide +kernel : parseMethodDescriptor "()I" = some ⟨[], some .int⟩) rfl (g := (mkF m 9 #[.val (.ref a), .val (.long q), .second, .val (.ref st), .val (.long (cn - q)), .second, .unset, .unset, .unset, .unset] [(.ref st)])) rfl (by rw [hml]; rfl) rfl 0 (by show 2 * 0 + _ ≤ _; exact Nat.le_of_eq rfl) (hb hby d5_9) (by decide) (by decide) (by decide) (by decide)
  rw [List.append_nil] at X2
  refine own_go st2 ?_
  refine own_go (fun _ => XS.istore X2.here hx rfl (hb hby d5_12) rfl (l' := #[.val (.ref a), .val (.long q), .second, .val (.ref st), .val (.long (cn - q)), .second, .val (.int k), .unset, .unset, .unset]) rfl) ?_
  show own_Go p e below _ (T2.setTop (mkF m 14 #[.val (.ref a), .val (.long q), .second, .val (.ref st), .val (.long (cn - q)), .second, .val (.int k), .unset, .unset, .unset] []))
  refine own_go (fun _ => XS.aloadN X2.here hx rfl (hb hby d5_14) rfl rfl) ?_
  obtain ⟨T3, X3, e3, st3⟩ := getF X2 hx hZ hown (host := "") (Or.inl (hw _ (List.mem_of_getElem? (i := 48) rfl))) Via.refl eh2 o_end0 (g := (mkF m 15 #[.val (.ref a), .val (.long q), .second, .val (.ref st), .val (.long (cn - q)), .second, .val (.int k), .unset, .unset, .unset] [(.ref a)])) rfl rfl (hb hby d5_15)
  refine own_go st3 ?_
  refine own_go (fun _ => XS.aloadN X3.here hx rfl (hb hby d5_18) rfl rfl) ?_
  obtain ⟨T4, X4, e4, st4⟩ := getF X3 hx hZ hown (host := "") (Or.inl (hw _ (List.mem_of_getElem? (i := 10) rfl))) Via.refl e3 o_from0 (g := (mkF m 19 #[.val (.ref a), .val (.long q), .second, .val (.ref st), .val (.long (cn - q)), .second, .val (.int k), .unset, .unset, .unset] [(.ref a), (.int (0 : Int32))])) rfl rfl (hb hby d5_19)
  refine own_go st4 ?_
  show own_Go p e below _ (T4.setTop (mkF m 22 #[.val (.ref a), .val (.long q), .second, .val (.ref st), .val (.long (cn - q)), .second, .val (.int k), .unset, .unset, .unset] [(.ref ff), (.int (0 : Int32))]))
  refine own_go (own_len X4 hx hZ e4 f_A0 (g := (mkF m 22 #[.val (.ref a), .val (.long q), .second, .val (.ref st), .val (.long (cn - q)), .second, .val (.int k), .unset, .unset, .unset] [(.ref ff), (.int (0 : Int32))])) rfl rfl (hb hby d5_22) (8 : Int32) (by rw [lf]; decide)) ?_
  refine own_go (fun _ => XS.icmpYes X4.here hx rfl (pc0 := 23) (pc' := 30) rfl (hb hby d5_23) rfl (XT.ii_ne_t (by decide)) (by decide) (by decide)) ?_
  refine own_go (fun _ => XS.aloadN X4.here hx rfl (hb hby d5_30) rfl rfl) ?_
  refine own_go (fun _ => XT.lloadN X4.here hx rfl (hb hby d5_31) rfl) ?_
  show own_Go p e below _ (T4.setTop (mkF m 32 #[.val (.ref a), .val (.long q), .second, .val (.ref st), .val (.long (cn - q)), .second, .val (.int k), .unset, .unset, .unset] [(.long q), (.ref a)]))
  obtain ⟨_, T5, L5, X5, ⟨rfl, eh5, rfl⟩, st5⟩ := own_callP X4 hx hZ hown (argsL := [(.long q)]) (rest := []) (own_floor0_con l Z a0 hw a ff ll kk fs ls ks q  h0 I1  []) e4 o_E0 (hw _ (List.mem_of_getElem? (i := 50) rfl)) (hw _ (List.mem_of_getElem? (i := 51) rfl)) (hw _ (List.mem_of_getElem? (i := 52) rfl)) (hw _ (List.mem_of_getElem? (i := 1) rfl)) (hw _ (List.mem_of_getElem? (i := 2) rfl)) (hw _ (List.mem_of_getElem? (i := 53) rfl)) (by decide) (by decide +kernel : parseMethodDescriptor "(J)I" = some ⟨[.long], some .int⟩) rfl (g := (mkF m 32 #[.val (.ref a), .val (.long q), .second, .val (.ref st), .val (.long (cn - q)), .second, .val (.int k), .unset, .unset, .unset] [(.long q), (.ref a)])) rfl (by rw [hml]; rfl) rfl 0 (by show 2 * 0 + _ ≤ _; exact Nat.le_of_eq rfl) (hb hby d5_32) (by decide) (by decide) (by decide) (by decide)
  rw [List.append_nil] at X5
  refine own_go st5 ?_
  have ef : (-1 : Int32) = (-1 : Int32) := by rfl
  show own_Go p e below _ (T5.setTop (mkF m 35 #[.val (.ref a), .val (.long q), .second, .val (.ref st), .val (.long (cn - q)), .second, .val (.int k), .unset, .unset, .unset] [(.int (-1 : Int32))]))
  rw [ef]
  refine own_go (fun _ => XS.istore X5.here hx rfl (hb hby d5_35) rfl (l' := #[.val (.ref a), .val (.long q), .second, .val (.ref st), .val (.long (cn - q)), .second, .val (.int k), .val (.int (-1 : Int32)), .unset, .unset]) rfl) ?_
  refine own_go (fun _ => XS.iload X5.here hx rfl (hb hby d5_37) rfl) ?_
  refine own_go (fun _ => XS.aloadN X5.here hx rfl (hb hby d5_39) rfl rfl) ?_
  show own_Go p e below _ (T5.setTop (mkF m 40 #[.val (.ref a), .val (.long q), .second, .val (.ref st), .val (.long (cn - q)), .second, .val (.int k), .val (.int (-1 : Int32)), .unset, .unset] [(.ref a), (.int (-1 : Int32))]))
  obtain ⟨T6, X6, e6, st6⟩ := getF X5 hx hZ hown (host := "") (Or.inl (hw _ (List.mem_of_getElem? (i := 54) rfl))) Via.refl eh5 o_start0 (g := (mkF m 40 #[.val (.ref a), .val (.long q), .second, .val (.ref st), .val (.long (cn - q)), .second, .val (.int k), .val (.int (-1 : Int32)), .unset, .unset] [(.ref a), (.int (-1 : Int32))])) rfl rfl (hb hby d5_40)
  refine own_go st6 ?_
  refine own_go (fun _ => XS.icmpYes X6.here hx rfl (pc0 := 43) (pc' := 60) rfl (hb hby d5_43) rfl (XT.ii_lt_t (by decide)) (by decide) (by decide)) ?_
  refine own_go (fun _ => XS.iload X6.here hx rfl (hb hby d5_60) rfl) ?_
  refine own_go (fun _ => XS.aloadN X6.here hx rfl (hb hby d5_62) rfl rfl) ?_
  show own_Go p e below _ (T6.setTop (mkF m 63 #[.val (.ref a), .val (.long q), .second, .val (.ref st), .val (.long (cn - q)), .second, .val (.int k), .val (.int (-1 : Int32)), .unset, .unset] [(.ref a), (.int (-1 : Int32))]))
  obtain ⟨T7, X7, e7, st7⟩ := getF X6 hx hZ hown (host := "") (Or.inl (hw _ (List.mem_of_getElem? (i := 54) rfl))) Via.refl e6 o_start0 (g := (mkF m 63 #[.val (.ref a), .val (.long q), .second, .val (.ref st), .val (.long (cn - q)), .second, .val (.int k), .val (.int (-1 : Int32)), .unset, .unset] [(.ref a), (.int (-1 : Int32))])) rfl rfl (hb hby d5_63)
  refine own_go st7 ?_
  refine own_go (fun _ => XS.icmpYes X7.here hx rfl (pc0 := 66) (pc' := 86) rfl (hb hby d5_66) rfl (XT.ii_lt_t (by decide)) (by decide) (by decide)) ?_
  refine own_go (fun _ => XS.iload X7.here hx rfl (hb hby d5_86) rfl) ?_
  refine own_go (fun _ => XS.iconst X7.here hx rfl (hb hby d5_88)) ?_
  show own_Go p e below _ (T7.setTop (mkF m 89 #[.val (.ref a), .val (.long q), .second, .val (.ref st), .val (.long (cn - q)), .second, .val (.int k), .val (.int (-1 : Int32)), .unset, .unset] [(.int (1 : Int32)), (.int (-1 : Int32))]))
  refine own_go (fun _ => XS.iadd X7.here hx rfl (hb hby d5_89) rfl) ?_
  refine own_go (fun _ => XS.istore X7.here hx rfl (hb hby d5_90) rfl (l' := #[.val (.ref a), .val (.long q), .second, .val (.ref st), .val (.long (cn - q)), .second, .val (.int k), .val (.int (-1 : Int32)), .val (.int ((-1 : Int32) + (1 : Int32))), .unset]) rfl) ?_
  refine own_go (fun _ => XS.iload X7.here hx rfl (hb hby d5_92) rfl) ?_
  refine own_go (fun _ => XS.iconst X7.here hx rfl (hb hby d5_94)) ?_
  show own_Go p e below _ (T7.setTop (mkF m 95 #[.val (.ref a), .val (.long q), .second, .val (.ref st), .val (.long (cn - q)), .second, .val (.int k), .val (.int (-1 : Int32)), .val (.int ((-1 : Int32) + (1 : Int32))), .unset] [(.int (1 : Int32)), (.int (-1 : Int32))]))
  refine own_go (fun _ => XS.iadd X7.here hx rfl (hb hby d5_95) rfl) ?_
  refine own_go (fun _ => XS.istore X7.here hx rfl (hb hby d5_96) rfl (l' := #[.val (.ref a), .val (.long q), .second, .val (.ref st), .val (.long (cn - q)), .second, .val (.int k), .val (.int (-1 : Int32)), .val (.int ((-1 : Int32) + (1 : Int32))), .val (.int ((-1 : Int32) + (1 : Int32)))]) rfl) ?_
  refine own_go (fun _ => XS.iload X7.here hx rfl (hb hby d5_98) rfl) ?_
  refine own_go (fun _ => XS.aloadN X7.here hx rfl (hb hby d5_100) rfl rfl) ?_
  show own_Go p e below _ (T7.setTop (mkF m 101 #[.val (.ref a), .val (.long q), .second, .val (.ref st), .val (.long (cn - q)), .second, .val (.int k), .val (.int (-1 : Int32)), .val (.int ((-1 : Int32) + (1 : Int32))), .val (.int ((-1 : Int32) + (1 : Int32)))] [(.ref a), (.int ((-1 : Int32) + (1 : Int32)))]))
  obtain ⟨T8, X8, e8, st8⟩ := getF X7 hx hZ hown (host := "") (Or.inl (hw _ (List.mem_of_getElem? (i := 48) rfl))) Via.refl e7 o_end0 (g := (mkF m 101 #[.val (.ref a), .val (.long q), .second, .val (.ref st), .val (.long (cn - q)), .second, .val (.int k), .val (.int (-1 : Int32)), .val (.int ((-1 : Int32) + (1 : Int32))), .val (.int ((-1 : Int32) + (1 : Int32)))] [(.ref a), (.int ((-1 : Int32) + (1 : Int32)))])) rfl rfl (hb hby d5_101)
  refine own_go st8 ?_
  refine own_go (fun _ => XS.icmpYes X8.here hx rfl (pc0 := 104) (pc' := 126) rfl (hb hby d5_104) rfl (XT.ii_ge_t (by decide)) (by decide) (by decide)) ?_
  refine own_go (fun _ => XS.aloadN X8.here hx rfl (hb hby d5_126) rfl rfl) ?_
  obtain ⟨T9, X9, e9, st9⟩ := getF X8 hx hZ hown (host := "") (Or.inl (hw _ (List.mem_of_getElem? (i := 10) rfl))) Via.refl e8 o_from0 (g := (mkF m 127 #[.val (.ref a), .val (.long q), .second, .val (.ref st), .val (.long (cn - q)), .second, .val (.int k), .val (.int (-1 : Int32)), .val (.int ((-1 : Int32) + (1 : Int32))), .val (.int ((-1 : Int32) + (1 : Int32)))] [(.ref a)])) rfl rfl (hb hby d5_127)
  refine own_go st9 ?_
  show own_Go p e below _ (T9.setTop (mkF m 130 #[.val (.ref a), .val (.long q), .second, .val (.ref st), .val (.long (cn - q)), .second, .val (.int k), .val (.int (-1 : Int32)), .val (.int ((-1 : Int32) + (1 : Int32))), .val (.int ((-1 : Int32) + (1 : Int32)))] [(.ref ff)]))
  refine own_go (fun _ => XS.iload X9.here hx rfl (hb hby d5_130) rfl) ?_
  refine own_go (fun _ => XS.aloadN X9.here hx rfl (hb hby d5_132) rfl rfl) ?_
  obtain ⟨T10, X10, e10, st10⟩ := getF X9 hx hZ hown (host := "") (Or.inl (hw _ (List.mem_of_getElem? (i := 10) rfl))) Via.refl e9 o_from0 (g := (mkF m 133 #[.val (.ref a), .val (.long q), .second, .val (.ref st), .val (.long (cn - q)), .second, .val (.int k), .val (.int (-1 : Int32)), .val (.int ((-1 : Int32) + (1 : Int32))), .val (.int ((-1 : Int32) + (1 : Int32)))] [(.ref a), (.int ((-1 : Int32) + (1 : Int32))), (.ref ff)])) rfl rfl (hb hby d5_133)
  refine own_go st10 ?_
  refine own_go (fun _ => XS.iload X10.here hx rfl (hb hby d5_136) rfl) ?_
  show own_Go p e below _ (T10.setTop (mkF m 138 #[.val (.ref a), .val (.long q), .second, .val (.ref st), .val (.long (cn - q)), .second, .val (.int k), .val (.int (-1 : Int32)), .val (.int ((-1 : Int32) + (1 : Int32))), .val (.int ((-1 : Int32) + (1 : Int32)))] [(.int ((-1 : Int32) + (1 : Int32))), (.ref ff), (.int ((-1 : Int32) + (1 : Int32))), (.ref ff)]))
  refine own_go (fun _ => XS.iconst X10.here hx rfl (hb hby d5_138)) ?_
  refine own_go (fun _ => XS.iadd X10.here hx rfl (hb hby d5_139) rfl) ?_
  refine own_go (fun _ => XS.aloadN X10.here hx rfl (hb hby d5_140) rfl rfl) ?_
  obtain ⟨T11, X11, e11, st11⟩ := getF X10 hx hZ hown (host := "") (Or.inl (hw _ (List.mem_of_getElem? (i := 48) rfl))) Via.refl e10 o_end0 (g := (mkF m 141 #[.val (.ref a), .val (.long q), .second, .val (.ref st), .val (.long (cn - q)), .second, .val (.int k), .val (.int (-1 : Int32)), .val (.int ((-1 : Int32) + (1 : Int32))), .val (.int ((-1 : Int32) + (1 : Int32)))] [(.ref a), (.int (((-1 : Int32) + (1 : Int32)) + (1 : Int32))), (.ref ff), (.int ((-1 : Int32) + (1 : Int32))), (.ref ff)])) rfl rfl (hb hby d5_141)
  refine own_go st11 ?_
  show own_Go p e below _ (T11.setTop (mkF m 144 #[.val (.ref a), .val (.long q), .second, .val (.ref st), .val (.long (cn - q)), .second, .val (.int k), .val (.int (-1 : Int32)), .val (.int ((-1 : Int32) + (1 : Int32))), .val (.int ((-1 : Int32) + (1 : Int32)))] [(.int (0 : Int32)), (.int (((-1 : Int32) + (1 : Int32)) + (1 : Int32))), (.ref ff), (.int ((-1 : Int32) + (1 : Int32))), (.ref ff)]))
  refine own_go (fun _ => XS.iload X11.here hx rfl (hb hby d5_144) rfl) ?_
  refine own_go (fun _ => XS.isub X11.here hx rfl (hb hby d5_146) rfl) ?_
  obtain ⟨T12, h12, L12, X12, e12, N12, Kc12, A12, st12⟩ := own_copy X11 hx hZ hown (hw _ (List.mem_of_getElem? (i := 56) rfl)) (hw _ (List.mem_of_getElem? (i := 59) rfl)) (hw _ (List.mem_of_getElem? (i := 57) rfl)) (hw _ (List.mem_of_getElem? (i := 58) rfl)) e11 f_A0 f_A0 rfl (g := (mkF m 147 #[.val (.ref a), .val (.long q), .second, .val (.ref st), .val (.long (cn - q)), .second, .val (.int k), .val (.int (-1 : Int32)), .val (.int ((-1 : Int32) + (1 : Int32))), .val (.int ((-1 : Int32) + (1 : Int32)))] [(.int ((0 : Int32) - ((-1 : Int32) + (1 : Int32)))), (.int (((-1 : Int32) + (1 : Int32)) + (1 : Int32))), (.ref ff), (.int ((-1 : Int32) + (1 : Int32))), (.ref ff)])) rfl (by rw [hml]; rfl) rfl (hb hby d5_147) 0 1 0 (by decide) (by decide) (by decide) (by rw [lf]; decide) (by rw [lf]; decide) N0 gf 0 (by show 2 * 0 + _ ≤ _; exact Nat.le_of_eq rfl) (by decide) (by decide)
  have o_E_12 := o_E0.keep Kc12
  have o_from_12 := o_from0.keep Kc12 (ninS ne_a_ff nin0)
  have o_lead_12 := o_lead0.keep Kc12 (ninS ne_a_ff nin0)
  have o_member_12 := o_member0.keep Kc12 (ninS ne_a_ff nin0)
  have o_start_12 := o_start0.keep Kc12 (ninS ne_a_ff nin0)
  have o_end_12 := o_end0.keep Kc12 (ninS ne_a_ff nin0)
  have l_A_12 := l_A0.keep Kc12 (ninS (Ne.symm ne_ff_ll) nin0)
  have k_A_12 := k_A0.keep Kc12 (ninS (Ne.symm ne_ff_kk) nin0)
  have st_E_12 := st_E.keep Kc12
  have K12 := K0.trans Kc12 (allS (Or.inl (List.mem_of_getElem? (i := 1) rfl)) all0)
  refine own_go st12 ?_
  rw [own_cut0] at A12
  refine own_go (fun _ => XS.aloadN X12.here hx rfl (hb hby d5_150) rfl rfl) ?_
  show own_Go p e below _ (T12.setTop (mkF m 151 #[.val (.ref a), .val (.long q), .second, .val (.ref st), .val (.long (cn - q)), .second, .val (.int k), .val (.int (-1 : Int32)), .val (.int ((-1 : Int32) + (1 : Int32))), .val (.int ((-1 : Int32) + (1 : Int32)))] [(.ref a)]))
  obtain ⟨T13, X13, e13, st13⟩ := getF X12 hx hZ hown (host := "") (Or.inl (hw _ (List.mem_of_getElem? (i := 12) rfl))) Via.refl e12 o_lead_12 (g := (mkF m 151 #[.val (.ref a), .val (.long q), .second, .val (.ref st), .val (.long (cn - q)), .second, .val (.int k), .val (.int (-1 : Int32)), .val (.int ((-1 : Int32) + (1 : Int32))), .val (.int ((-1 : Int32) + (1 : Int32)))] [(.ref a)])) rfl rfl (hb hby d5_151)
  refine own_go st13 ?_
  refine own_go (fun _ => XS.iload X13.here hx rfl (hb hby d5_154) rfl) ?_
  refine own_go (fun _ => XS.aloadN X13.here hx rfl (hb hby d5_156) rfl rfl) ?_
  obtain ⟨T14, X14, e14, st14⟩ := getF X13 hx hZ hown (host := "") (Or.inl (hw _ (List.mem_of_getElem? (i := 12) rfl))) Via.refl e13 o_lead_12 (g := (mkF m 157 #[.val (.ref a), .val (.long q), .second, .val (.ref st), .val (.long (cn - q)), .second, .val (.int k), .val (.int (-1 : Int32)), .val (.int ((-1 : Int32) + (1 : Int32))), .val (.int ((-1 : Int32) + (1 : Int32)))] [(.ref a), (.int ((-1 : Int32) + (1 : Int32))), (.ref ll)])) rfl rfl (hb hby d5_157)
  refine own_go st14 ?_
  show own_Go p e below _ (T14.setTop (mkF m 160 #[.val (.ref a), .val (.long q), .second, .val (.ref st), .val (.long (cn - q)), .second, .val (.int k), .val (.int (-1 : Int32)), .val (.int ((-1 : Int32) + (1 : Int32))), .val (.int ((-1 : Int32) + (1 : Int32)))] [(.ref ll), (.int ((-1 : Int32) + (1 : Int32))), (.ref ll)]))
  refine own_go (fun _ => XS.iload X14.here hx rfl (hb hby d5_160) rfl) ?_
  refine own_go (fun _ => XS.iconst X14.here hx rfl (hb hby d5_162)) ?_
  refine own_go (fun _ => XS.iadd X14.here hx rfl (hb hby d5_163) rfl) ?_
  refine own_go (fun _ => XS.aloadN X14.here hx rfl (hb hby d5_164) rfl rfl) ?_
  show own_Go p e below _ (T14.setTop (mkF m 165 #[.val (.ref a), .val (.long q), .second, .val (.ref st), .val (.long (cn - q)), .second, .val (.int k), .val (.int (-1 : Int32)), .val (.int ((-1 : Int32) + (1 : Int32))), .val (.int ((-1 : Int32) + (1 : Int32)))] [(.ref a), (.int (((-1 : Int32) + (1 : Int32)) + (1 : Int32))), (.ref ll), (.int ((-1 : Int32) + (1 : Int32))), (.ref ll)]))
  obtain ⟨T15, X15, e15, st15⟩ := getF X14 hx hZ hown (host := "") (Or.inl (hw _ (List.mem_of_getElem? (i := 48) rfl))) Via.refl e14 o_end_12 (g := (mkF m 165 #[.val (.ref a), .val (.long q), .second, .val (.ref st), .val (.long (cn - q)), .second, .val (.int k), .val (.int (-1 : Int32)), .val (.int ((-1 : Int32) + (1 : Int32))), .val (.int ((-1 : Int32) + (1 : Int32)))] [(.ref a), (.int (((-1 : Int32) + (1 : Int32)) + (1 : Int32))), (.ref ll), (.int ((-1 : Int32) + (1 : Int32))), (.ref ll)])) rfl rfl (hb hby d5_165)
  refine own_go st15 ?_
  refine own_go (fun _ => XS.iload X15.here hx rfl (hb hby d5_168) rfl) ?_
  refine own_go (fun _ => XS.isub X15.here hx rfl (hb hby d5_170) rfl) ?_
  obtain ⟨T16, h16, L16, X16, e16, N16, Kc16, A16, st16⟩ := own_copy X15 hx hZ hown (hw _ (List.mem_of_getElem? (i := 56) rfl)) (hw _ (List.mem_of_getElem? (i := 59) rfl)) (hw _ (List.mem_of_getElem? (i := 57) rfl)) (hw _ (List.mem_of_getElem? (i := 58) rfl)) e15 l_A_12 l_A_12 rfl (g := (mkF m 171 #[.val (.ref a), .val (.long q), .second, .val (.ref st), .val (.long (cn - q)), .second, .val (.int k), .val (.int (-1 : Int32)), .val (.int ((-1 : Int32) + (1 : Int32))), .val (.int ((-1 : Int32) + (1 : Int32)))] [(.int ((0 : Int32) - ((-1 : Int32) + (1 : Int32)))), (.int (((-1 : Int32) + (1 : Int32)) + (1 : Int32))), (.ref ll), (.int ((-1 : Int32) + (1 : Int32))), (.ref ll)])) rfl (by rw [hml]; rfl) rfl (hb hby d5_171) 0 1 0 (by decide) (by decide) (by decide) (by rw [lL]; decide) (by rw [lL]; decide) N12 gl 0 (by show 2 * 0 + _ ≤ _; exact Nat.le_of_eq rfl) (by decide) (by decide)
  have o_E_16 := o_E_12.keep Kc16
  have o_from_16 := o_from_12.keep Kc16 (ninS ne_a_ll nin0)
  have o_lead_16 := o_lead_12.keep Kc16 (ninS ne_a_ll nin0)
  have o_member_16 := o_member_12.keep Kc16 (ninS ne_a_ll nin0)
  have o_start_16 := o_start_12.keep Kc16 (ninS ne_a_ll nin0)
  have o_end_16 := o_end_12.keep Kc16 (ninS ne_a_ll nin0)
  have k_A_16 := k_A_12.keep Kc16 (ninS (Ne.symm ne_ll_kk) nin0)
  have st_E_16 := st_E_12.keep Kc16
  have f_A_16 := A12.keep Kc16 (ninS ne_ff_ll nin0)
  have K16 := K12.trans Kc16 (allS (Or.inl (List.mem_of_getElem? (i := 2) rfl)) all0)
  refine own_go st16 ?_
  show own_Go p e below _ (T16.setTop (mkF m 174 #[.val (.ref a), .val (.long q), .second, .val (.ref st), .val (.long (cn - q)), .second, .val (.int k), .val (.int (-1 : Int32)), .val (.int ((-1 : Int32) + (1 : Int32))), .val (.int ((-1 : Int32) + (1 : Int32)))] []))
  rw [own_cut0] at A16
  refine own_go (fun _ => XS.aloadN X16.here hx rfl (hb hby d5_174) rfl rfl) ?_
  obtain ⟨T17, X17, e17, st17⟩ := getF X16 hx hZ hown (host := "") (Or.inl (hw _ (List.mem_of_getElem? (i := 15) rfl))) Via.refl e16 o_member_16 (g := (mkF m 175 #[.val (.ref a), .val (.long q), .second, .val (.ref st), .val (.long (cn - q)), .second, .val (.int k), .val (.int (-1 : Int32)), .val (.int ((-1 : Int32) + (1 : Int32))), .val (.int ((-1 : Int32) + (1 : Int32)))] [(.ref a)])) rfl rfl (hb hby d5_175)
  refine own_go st17 ?_
  refine own_go (fun _ => XS.iload X17.here hx rfl (hb hby d5_178) rfl) ?_
  refine own_go (fun _ => XS.aloadN X17.here hx rfl (hb hby d5_180) rfl rfl) ?_
  show own_Go p e below _ (T17.setTop (mkF m 181 #[.val (.ref a), .val (.long q), .second, .val (.ref st), .val (.long (cn - q)), .second, .val (.int k), .val (.int (-1 : Int32)), .val (.int ((-1 : Int32) + (1 : Int32))), .val (.int ((-1 : Int32) + (1 : Int32)))] [(.ref a), (.int ((-1 : Int32) + (1 : Int32))), (.ref kk)]))
  obtain ⟨T18, X18, e18, st18⟩ := getF X17 hx hZ hown (host := "") (Or.inl (hw _ (List.mem_of_getElem? (i := 15) rfl))) Via.refl e17 o_member_16 (g := (mkF m 181 #[.val (.ref a), .val (.long q), .second, .val (.ref st), .val (.long (cn - q)), .second, .val (.int k), .val (.int (-1 : Int32)), .val (.int ((-1 : Int32) + (1 : Int32))), .val (.int ((-1 : Int32) + (1 : Int32)))] [(.ref a), (.int ((-1 : Int32) + (1 : Int32))), (.ref kk)])) rfl rfl (hb hby d5_181)
  refine own_go st18 ?_
  refine own_go (fun _ => XS.iload X18.here hx rfl (hb hby d5_184) rfl) ?_
  refine own_go (fun _ => XS.iconst X18.here hx rfl (hb hby d5_186)) ?_
  refine own_go (fun _ => XS.iadd X18.here hx rfl (hb hby d5_187) rfl) ?_
  show own_Go p e below _ (T18.setTop (mkF m 188 #[.val (.ref a), .val (.long q), .second, .val (.ref st), .val (.long (cn - q)), .second, .val (.int k), .val (.int (-1 : Int32)), .val (.int ((-1 : Int32) + (1 : Int32))), .val (.int ((-1 : Int32) + (1 : Int32)))] [(.int (((-1 : Int32) + (1 : Int32)) + (1 : Int32))), (.ref kk), (.int ((-1 : Int32) + (1 : Int32))), (.ref kk)]))
  refine own_go (fun _ => XS.aloadN X18.here hx rfl (hb hby d5_188) rfl rfl) ?_
  obtain ⟨T19, X19, e19, st19⟩ := getF X18 hx hZ hown (host := "") (Or.inl (hw _ (List.mem_of_getElem? (i := 48) rfl))) Via.refl e18 o_end_16 (g := (mkF m 189 #[.val (.ref a), .val (.long q), .second, .val (.ref st), .val (.long (cn - q)), .second, .val (.int k), .val (.int (-1 : Int32)), .val (.int ((-1 : Int32) + (1 : Int32))), .val (.int ((-1 : Int32) + (1 : Int32)))] [(.ref a), (.int (((-1 : Int32) + (1 : Int32)) + (1 : Int32))), (.ref kk), (.int ((-1 : Int32) + (1 : Int32))), (.ref kk)])) rfl rfl (hb hby d5_189)
  refine own_go st19 ?_
  refine own_go (fun _ => XS.iload X19.here hx rfl (hb hby d5_192) rfl) ?_
  refine own_go (fun _ => XS.isub X19.here hx rfl (hb hby d5_194) rfl) ?_
  show own_Go p e below _ (T19.setTop (mkF m 195 #[.val (.ref a), .val (.long q), .second, .val (.ref st), .val (.long (cn - q)), .second, .val (.int k), .val (.int (-1 : Int32)), .val (.int ((-1 : Int32) + (1 : Int32))), .val (.int ((-1 : Int32) + (1 : Int32)))] [(.int ((0 : Int32) - ((-1 : Int32) + (1 : Int32)))), (.int (((-1 : Int32) + (1 : Int32)) + (1 : Int32))), (.ref kk), (.int ((-1 : Int32) + (1 : Int32))), (.ref kk)]))
  obtain ⟨T20, h20, L20, X20, e20, N20, Kc20, A20, st20⟩ := own_copy X19 hx hZ hown (hw _ (List.mem_of_getElem? (i := 56) rfl)) (hw _ (List.mem_of_getElem? (i := 59) rfl)) (hw _ (List.mem_of_getElem? (i := 57) rfl)) (hw _ (List.mem_of_getElem? (i := 58) rfl)) e19 k_A_16 k_A_16 rfl (g := (mkF m 195 #[.val (.ref a), .val (.long q), .second, .val (.ref st), .val (.long (cn - q)), .second, .val (.int k), .val (.int (-1 : Int32)), .val (.int ((-1 : Int32) + (1 : Int32))), .val (.int ((-1 : Int32) + (1 : Int32)))] [(.int ((0 : Int32) - ((-1 : Int32) + (1 : Int32)))), (.int (((-1 : Int32) + (1 : Int32)) + (1 : Int32))), (.ref kk), (.int ((-1 : Int32) + (1 : Int32))), (.ref kk)])) rfl (by rw [hml]; rfl) rfl (hb hby d5_195) 0 1 0 (by decide) (by decide) (by decide) (by rw [lk]; decide) (by rw [lk]; decide) N16 gk 0 (by show 2 * 0 + _ ≤ _; exact Nat.le_of_eq rfl) (by decide) (by decide)
  have o_E_20 := o_E_16.keep Kc20
  have o_from_20 := o_from_16.keep Kc20 (ninS ne_a_kk nin0)
  have o_lead_20 := o_lead_16.keep Kc20 (ninS ne_a_kk nin0)
  have o_member_20 := o_member_16.keep Kc20 (ninS ne_a_kk nin0)
  have o_start_20 := o_start_16.keep Kc20 (ninS ne_a_kk nin0)
  have o_end_20 := o_end_16.keep Kc20 (ninS ne_a_kk nin0)
  have st_E_20 := st_E_16.keep Kc20
  have f_A_20 := f_A_16.keep Kc20 (ninS ne_ff_kk nin0)
  have l_A_20 := A16.keep Kc20 (ninS ne_ll_kk nin0)
  have K20 := K16.trans Kc20 (allS (Or.inl (List.mem_of_getElem? (i := 3) rfl)) all0)
  refine own_go st20 ?_
  rw [own_cut0] at A20
  refine own_go (fun _ => XS.aloadN X20.here hx rfl (hb hby d5_198) rfl rfl) ?_
  refine own_go (fun _ => XS.iload X20.here hx rfl (hb hby d5_199) rfl) ?_
  refine own_go (fun _ => XS.iconst X20.here hx rfl (hb hby d5_201)) ?_
  show own_Go p e below _ (T20.setTop (mkF m 202 #[.val (.ref a), .val (.long q), .second, .val (.ref st), .val (.long (cn - q)), .second, .val (.int k), .val (.int (-1 : Int32)), .val (.int ((-1 : Int32) + (1 : Int32))), .val (.int ((-1 : Int32) + (1 : Int32)))] [(.int (1 : Int32)), (.int ((-1 : Int32) + (1 : Int32))), (.ref a)]))
  refine own_go (fun _ => XS.iadd X20.here hx rfl (hb hby d5_202) rfl) ?_
  refine own_go (fun _ => XS.aloadN X20.here hx rfl (hb hby d5_203) rfl rfl) ?_
  obtain ⟨T21, X21, e21, st21⟩ := getF X20 hx hZ hown (host := "") (Or.inl (hw _ (List.mem_of_getElem? (i := 48) rfl))) Via.refl e20 o_end_20 (g := (mkF m 204 #[.val (.ref a), .val (.long q), .second, .val (.ref st), .val (.long (cn - q)), .second, .val (.int k), .val (.int (-1 : Int32)), .val (.int ((-1 : Int32) + (1 : Int32))), .val (.int ((-1 : Int32) + (1 : Int32)))] [(.ref a), (.int (((-1 : Int32) + (1 : Int32)) + (1 : Int32))), (.ref a)])) rfl rfl (hb hby d5_204)
  refine own_go st21 ?_
  refine own_go (fun _ => XS.iadd X21.here hx rfl (hb hby d5_207) rfl) ?_
  show own_Go p e below _ (T21.setTop (mkF m 208 #[.val (.ref a), .val (.long q), .second, .val (.ref st), .val (.long (cn - q)), .second, .val (.int k), .val (.int (-1 : Int32)), .val (.int ((-1 : Int32) + (1 : Int32))), .val (.int ((-1 : Int32) + (1 : Int32)))] [(.int ((((-1 : Int32) + (1 : Int32)) + (1 : Int32)) + (0 : Int32))), (.ref a)]))
  refine own_go (fun _ => XS.iload X21.here hx rfl (hb hby d5_208) rfl) ?_
  refine own_go (fun _ => XS.isub X21.here hx rfl (hb hby d5_210) rfl) ?_
  obtain ⟨T22, h22, X22, e22, W22, st22⟩ := putF X21 hx hZ hown (host := "") (Or.inl (hw _ (List.mem_of_getElem? (i := 48) rfl))) Via.refl e21 o_end_20 o_E_20 (Or.inl (hw _ (List.mem_of_getElem? (i := 49) rfl))) (hw _ (List.mem_of_getElem? (i := 1) rfl)) (ty := .int) (by decide) rfl rfl (g := (mkF m 211 #[.val (.ref a), .val (.long q), .second, .val (.ref st), .val (.long (cn - q)), .second, .val (.int k), .val (.int (-1 : Int32)), .val (.int ((-1 : Int32) + (1 : Int32))), .val (.int ((-1 : Int32) + (1 : Int32)))] [(.int (((((-1 : Int32) + (1 : Int32)) + (1 : Int32)) + (0 : Int32)) - ((-1 : Int32) + (1 : Int32)))), (.ref a)])) rfl rfl (hb hby d5_211)
  have N22 := Fr.snoc X22 N20 ga
  have o_E_22 := o_E_20.wr W22
  have o_from_22 := o_from_20.other W22 (Or.inr (slot_ne (t := (.array .long)) (t' := .int) (Or.inl (hw _ (List.mem_of_getElem? (i := 11) rfl))) (Or.inl (hw _ (List.mem_of_getElem? (i := 49) rfl))) (by decide) (by decide) (by decide)))
  have o_lead_22 := o_lead_20.other W22 (Or.inr (slot_ne (t := (.array .long)) (t' := .int) (Or.inl (hw _ (List.mem_of_getElem? (i := 13) rfl))) (Or.inl (hw _ (List.mem_of_getElem? (i := 49) rfl))) (by decide) (by decide) (by decide)))
  have o_member_22 := o_member_20.other W22 (Or.inr (slot_ne (t := (.array .int)) (t' := .int) (Or.inl (hw _ (List.mem_of_getElem? (i := 16) rfl))) (Or.inl (hw _ (List.mem_of_getElem? (i := 49) rfl))) (by decide) (by decide) (by decide)))
  have o_start_22 := o_start_20.other W22 (Or.inr (slot_ne (t := .int) (t' := .int) (Or.inl (hw _ (List.mem_of_getElem? (i := 55) rfl))) (Or.inl (hw _ (List.mem_of_getElem? (i := 49) rfl))) (by decide) (by decide) (by decide)))
  have o_end_22 := o_end_20.same W22
  have st_E_22 := st_E_20.wr W22
  have f_A_22 := f_A_20.other W22 (Ne.symm ne_a_ff)
  have l_A_22 := l_A_20.other W22 (Ne.symm ne_a_ll)
  have k_A_22 := A20.other W22 (Ne.symm ne_a_kk)
  have K22 := K20.wr W22 (Or.inl (List.mem_of_getElem? (i := 0) rfl))
  refine own_go st22 ?_
  refine own_go (fun _ => XS.aloadN X22.here hx rfl (hb hby d5_214) rfl rfl) ?_
  show own_Go p e below _ (T22.setTop (mkF m 215 #[.val (.ref a), .val (.long q), .second, .val (.ref st), .val (.long (cn - q)), .second, .val (.int k), .val (.int (-1 : Int32)), .val (.int ((-1 : Int32) + (1 : Int32))), .val (.int ((-1 : Int32) + (1 : Int32)))] [(.ref a)]))
  obtain ⟨T23, X23, e23, st23⟩ := getF X22 hx hZ hown (host := "") (Or.inl (hw _ (List.mem_of_getElem? (i := 10) rfl))) Via.refl e22 o_from_22 (g := (mkF m 215 #[.val (.ref a), .val (.long q), .second, .val (.ref st), .val (.long (cn - q)), .second, .val (.int k), .val (.int (-1 : Int32)), .val (.int ((-1 : Int32) + (1 : Int32))), .val (.int ((-1 : Int32) + (1 : Int32)))] [(.ref a)])) rfl rfl (hb hby d5_215)
  refine own_go st23 ?_
  refine own_go (fun _ => XS.iload X23.here hx rfl (hb hby d5_218) rfl) ?_
  refine own_go (fun _ => XT.lloadN X23.here hx rfl (hb hby d5_220) rfl) ?_
  obtain ⟨T24, h24, X24, e24, W24, A24, st24⟩ := own_stJ X23 hx hZ e23 f_A_22 (g := (mkF m 221 #[.val (.ref a), .val (.long q), .second, .val (.ref st), .val (.long (cn - q)), .second, .val (.int k), .val (.int (-1 : Int32)), .val (.int ((-1 : Int32) + (1 : Int32))), .val (.int ((-1 : Int32) + (1 : Int32)))] [(.long q), (.int ((-1 : Int32) + (1 : Int32))), (.ref ff)])) rfl rfl (hb hby d5_221) 0 (by decide) (by rw [lf]; decide)
  have N24 := Fr.snoc X24 N22 gf
  have o_E_24 := o_E_22.wr W24
  have o_from_24 := o_from_22.other W24 (Or.inl ne_a_ff)
  have o_lead_24 := o_lead_22.other W24 (Or.inl ne_a_ff)
  have o_member_24 := o_member_22.other W24 (Or.inl ne_a_ff)
  have o_start_24 := o_start_22.other W24 (Or.inl ne_a_ff)
  have o_end_24 := o_end_22.other W24 (Or.inl ne_a_ff)
  have st_E_24 := st_E_22.wr W24
  have l_A_24 := l_A_22.other W24 (Ne.symm ne_ff_ll)
  have k_A_24 := k_A_22.other W24 (Ne.symm ne_ff_kk)
  have K24 := K22.wr W24 (Or.inl (List.mem_of_getElem? (i := 1) rfl))
  refine own_go st24 ?_
  show own_Go p e below _ (T24.setTop (mkF m 222 #[.val (.ref a), .val (.long q), .second, .val (.ref st), .val (.long (cn - q)), .second, .val (.int k), .val (.int (-1 : Int32)), .val (.int ((-1 : Int32) + (1 : Int32))), .val (.int ((-1 : Int32) + (1 : Int32)))] []))
  refine own_go (fun _ => XS.aloadN X24.here hx rfl (hb hby d5_222) rfl rfl) ?_
  obtain ⟨T25, X25, e25, st25⟩ := getF X24 hx hZ hown (host := "") (Or.inl (hw _ (List.mem_of_getElem? (i := 12) rfl))) Via.refl e24 o_lead_24 (g := (mkF m 223 #[.val (.ref a), .val (.long q), .second, .val (.ref st), .val (.long (cn - q)), .second, .val (.int k), .val (.int (-1 : Int32)), .val (.int ((-1 : Int32) + (1 : Int32))), .val (.int ((-1 : Int32) + (1 : Int32)))] [(.ref a)])) rfl rfl (hb hby d5_223)
  refine own_go st25 ?_
  refine own_go (fun _ => XS.iload X25.here hx rfl (hb hby d5_226) rfl) ?_
  refine own_go (fun _ => XT.lload X25.here hx rfl (hb hby d5_228) rfl) ?_
  show own_Go p e below _ (T25.setTop (mkF m 230 #[.val (.ref a), .val (.long q), .second, .val (.ref st), .val (.long (cn - q)), .second, .val (.int k), .val (.int (-1 : Int32)), .val (.int ((-1 : Int32) + (1 : Int32))), .val (.int ((-1 : Int32) + (1 : Int32)))] [(.long (cn - q)), (.int ((-1 : Int32) + (1 : Int32))), (.ref ll)]))
  obtain ⟨T26, h26, X26, e26, W26, A26, st26⟩ := own_stJ X25 hx hZ e25 l_A_24 (g := (mkF m 230 #[.val (.ref a), .val (.long q), .second, .val (.ref st), .val (.long (cn - q)), .second, .val (.int k), .val (.int (-1 : Int32)), .val (.int ((-1 : Int32) + (1 : Int32))), .val (.int ((-1 : Int32) + (1 : Int32)))] [(.long (cn - q)), (.int ((-1 : Int32) + (1 : Int32))), (.ref ll)])) rfl rfl (hb hby d5_230) 0 (by decide) (by rw [lL]; decide)
  have N26 := Fr.snoc X26 N24 gl
  have o_E_26 := o_E_24.wr W26
  have o_from_26 := o_from_24.other W26 (Or.inl ne_a_ll)
  have o_lead_26 := o_lead_24.other W26 (Or.inl ne_a_ll)
  have o_member_26 := o_member_24.other W26 (Or.inl ne_a_ll)
  have o_start_26 := o_start_24.other W26 (Or.inl ne_a_ll)
  have o_end_26 := o_end_24.other W26 (Or.inl ne_a_ll)
  have st_E_26 := st_E_24.wr W26
  have f_A_26 := A24.other W26 ne_ff_ll
  have k_A_26 := k_A_24.other W26 (Ne.symm ne_ll_kk)
  have K26 := K24.wr W26 (Or.inl (List.mem_of_getElem? (i := 2) rfl))
  refine own_go st26 ?_
  refine own_go (fun _ => XS.aloadN X26.here hx rfl (hb hby d5_231) rfl rfl) ?_
  obtain ⟨T27, X27, e27, st27⟩ := getF X26 hx hZ hown (host := "") (Or.inl (hw _ (List.mem_of_getElem? (i := 15) rfl))) Via.refl e26 o_member_26 (g := (mkF m 232 #[.val (.ref a), .val (.long q), .second, .val (.ref st), .val (.long (cn - q)), .second, .val (.int k), .val (.int (-1 : Int32)), .val (.int ((-1 : Int32) + (1 : Int32))), .val (.int ((-1 : Int32) + (1 : Int32)))] [(.ref a)])) rfl rfl (hb hby d5_232)
  refine own_go st27 ?_
  refine own_go (fun _ => XS.iload X27.here hx rfl (hb hby d5_235) rfl) ?_
  show own_Go p e below _ (T27.setTop (mkF m 237 #[.val (.ref a), .val (.long q), .second, .val (.ref st), .val (.long (cn - q)), .second, .val (.int k), .val (.int (-1 : Int32)), .val (.int ((-1 : Int32) + (1 : Int32))), .val (.int ((-1 : Int32) + (1 : Int32)))] [(.int ((-1 : Int32) + (1 : Int32))), (.ref kk)]))
  refine own_go (fun _ => XS.iload X27.here hx rfl (hb hby d5_237) rfl) ?_
  obtain ⟨T28, h28, X28, e28, W28, A28, st28⟩ := own_stI X27 hx hZ e27 k_A_26 (g := (mkF m 239 #[.val (.ref a), .val (.long q), .second, .val (.ref st), .val (.long (cn - q)), .second, .val (.int k), .val (.int (-1 : Int32)), .val (.int ((-1 : Int32) + (1 : Int32))), .val (.int ((-1 : Int32) + (1 : Int32)))] [(.int k), (.int ((-1 : Int32) + (1 : Int32))), (.ref kk)])) rfl rfl (hb hby d5_239) 0 (by decide) (by rw [lk]; decide)
  have N28 := Fr.snoc X28 N26 gk
  have o_E_28 := o_E_26.wr W28
  have o_from_28 := o_from_26.other W28 (Or.inl ne_a_kk)
  have o_lead_28 := o_lead_26.other W28 (Or.inl ne_a_kk)
  have o_member_28 := o_member_26.other W28 (Or.inl ne_a_kk)
  have o_start_28 := o_start_26.other W28 (Or.inl ne_a_kk)
  have o_end_28 := o_end_26.other W28 (Or.inl ne_a_kk)
  have st_E_28 := st_E_26.wr W28
  have f_A_28 := f_A_26.other W28 ne_ff_kk
  have l_A_28 := A26.other W28 ne_ll_kk
  have K28 := K26.wr W28 (Or.inl (List.mem_of_getElem? (i := 3) rfl))
  refine own_go st28 ?_
  exact own_vret X28 hx hlk hret (hb hby d5_240) (by decide) (by decide) (by rw [e28]; exact ⟨rfl, N28, K28, ⟨⟨o_E_28, f_A_28, l_A_28, A28⟩, ⟨o_from_28, o_lead_28, o_member_28, o_start_28, o_end_28⟩, ⟨ne_a_ff, ne_a_ll, ne_a_kk, ne_ff_ll, ne_ff_kk, ne_ll_kk⟩⟩⟩)
set_option maxRecDepth 65536 in
set_option maxHeartbeats 40000000 in
theorem own_add1_con (l : Launch) (Z : State) (a0 : Array Value) (hw : ∀ d ∈ tables_1, d.before a0 Z = true) (a ff ll kk : Addr) (fs ls ks : List Value) (st : Addr) (q cn f0 : Int64) (k : Int32) (n0 : Nat) (h0 : Heap) (I0 : own_Ra Z h0 a ff ll kk fs ls ks 1) (lf : fs.length = 8) (lL : ls.length = 8) (lk : ks.length = 8) (S0 : own_Stamp Z h0 st cn k) (g0 : fs[0]? = some (.long f0)) (p0 : f0 < q) (u : Int64) (hu : ls[0]? = some (.long u)) (hlt : u < cn - q) (ga : n0 ≤ a) (gf : n0 ≤ ff) (gl : n0 ≤ ll) (gk : n0 ≤ kk) (ws : List Jvm.Cond) :
    own_Con l Z (⟨"tidemark/protocol/Raises", "add", "(JLtidemark/model/Stamp;)V"⟩ : MethodName) prog_79_method_2_code 10 none ({ frames := 2, cells := 0, slots := 0, locals := 80 } : Room) #[(.ref a), (.long q), (.ref st)] h0 (fun v h L => v = none ∧ Fr n0 L ∧ Keep h0 h [a, ff, ll, kk] ∧ own_Ra Z h a ff ll kk (fs.set 1 (.long q)) (ls.set 1 (.long (cn - q))) (ks.set 1 (.int k)) 2) ws := by
  refine own_con (F := fun m => (mkF m 0 #[.val (.ref a), .val (.long q), .second, .val (.ref st), .unset, .unset, .unset, .unset, .unset, .unset] [])) (own_pn (by first | (simp [plainName, overriddenIn]; done) | decide +kernel)) (fun m => by first | (simp [entryFrame, mkF, argsToLocals, Value.category]; done) | rfl) ?_
  intro p e s m below meth c T X hx hby hml hZ hown hnm hret hlk eT
  show own_Go p e below (own_Out s (fun v h L => v = none ∧ Fr n0 L ∧ Keep h0 h [a, ff, ll, kk] ∧ own_Ra Z h a ff ll kk (fs.set 1 (.long q)) (ls.set 1 (.long (cn - q))) (ks.set 1 (.int k)) 2) ({ frames := 2, cells := 0, slots := 0, locals := 80 } : Room).cells ({ frames := 2, cells := 0, slots := 0, locals := 80 } : Room).slots) (T.setTop (mkF m 0 #[.val (.ref a), .val (.long q), .second, .val (.ref st), .unset, .unset, .unset, .unset, .unset, .unset] []))
  have I1 := I0
  obtain ⟨⟨o_E0, f_A0, l_A0, k_A0⟩, ⟨o_from0, o_lead0, o_member0, o_start0, o_end0⟩, ⟨ne_a_ff, ne_a_ll, ne_a_kk, ne_ff_ll, ne_ff_kk, ne_ll_kk⟩⟩ := I0
  have N0 := Fr.nil n0
  have K0 := Keep.refl h0 [a, ff, ll, kk]
  have st_E := S0.1
  refine own_go (fun _ => XS.aloadN X.here hx rfl (hb hby d5_0) rfl rfl) ?_
  obtain ⟨_, T1, L1, X1, ⟨rfl, eh1, rfl⟩, st1⟩ := own_callV X hx hZ hown (argsL := []) (rest := []) (own_counter_con l Z a0 hw st cn k h0 S0 []) eT st_E (hw _ (List.mem_of_getElem? (i := 38) rfl)) (hw _ (List.mem_of_getElem? (i := 39) rfl)) (hw _ (List.mem_of_getElem? (i := 41) rfl)) (hw _ (List.mem_of_getElem? (i := 40) rfl)) (hw _ (List.mem_of_getElem? (i := 19) rfl)) (hw _ (List.mem_of_getElem? (i := 42) rfl)) (notFace_of_selects (args := #[]) (mvT hZ (hw _ (List.mem_of_getElem? (i := 41) rfl)))) (by decide) (by decide +kernel : parseMethodDescriptor "()J" = some ⟨[], some .long⟩) rfl (g := (mkF m 1 #[.val (.ref a), .val (.long q), .second, .val (.ref st), .unset, .unset, .unset, .unset, .unset, .unset] [(.ref st)])) rfl (by rw [hml]; rfl) rfl 0 (by show 2 * 0 + _ ≤ _; exact Nat.le_of_eq rfl) (hb hby d5_1) (by decide) (by decide) (by decide) (by decide)
  rw [List.append_nil] at X1
  refine own_go st1 ?_
  refine own_go (fun _ => XT.lloadN X1.here hx rfl (hb hby d5_4) rfl) ?_
  refine own_go (fun _ => XT.lsub X1.here hx rfl (hb hby d5_5) rfl) ?_
  show own_Go p e below _ (T1.setTop (mkF m 6 #[.val (.ref a), .val (.long q), .second, .val (.ref st), .unset, .unset, .unset, .unset, .unset, .unset] [(.long (cn - q))]))
  refine own_go (fun _ => XT.lstore X1.here hx rfl (hb hby d5_6) rfl (l' := #[.val (.ref a), .val (.long q), .second, .val (.ref st), .val (.long (cn - q)), .second, .unset, .unset, .unset, .unset]) rfl) ?_
  refine own_go (fun _ => XS.aloadN X1.here hx rfl (hb hby d5_8) rfl rfl) ?_
  obtain ⟨_, T2, L2, X2, ⟨rfl, eh2, rfl⟩, st2⟩ := own_callV X1 hx hZ hown (argsL := []) (rest := []) (own_member_con l Z a0 hw st cn k h0 S0 []) eh1 st_E (hw _ (List.mem_of_getElem? (i := 43) rfl)) (hw _ (List.mem_of_getElem? (i := 44) rfl)) (hw _ (List.mem_of_getElem? (i := 46) rfl)) (hw _ (List.mem_of_getElem? (i := 45) rfl)) (hw _ (List.mem_of_getElem? (i := 19) rfl)) (hw _ (List.mem_of_getElem? (i := 47) rfl)) (notFace_of_selects (args := #[]) (mvT hZ (hw _ (List.mem_of_getElem? (i := 46) rfl)))) (by decide) (by decide +kernel : parseMethodDescriptor "()I" = some ⟨[], some .int⟩) rfl (g := (mkF m 9 #[.val (.ref a), .val (.long q), .second, .val (.ref st), .val (.long (cn - q)), .second, .unset, .unset, .unset, .unset] [(.ref st)])) rfl (by rw [hml]; rfl) rfl 0 (by show 2 * 0 + _ ≤ _; exact Nat.le_of_eq rfl) (hb hby d5_9) (by decide) (by decide) (by decide) (by decide)
  rw [List.append_nil] at X2
  refine own_go st2 ?_
  refine own_go (fun _ => XS.istore X2.here hx rfl (hb hby d5_12) rfl (l' := #[.val (.ref a), .val (.long q), .second, .val (.ref st), .val (.long (cn - q)), .second, .val (.int k), .unset, .unset, .unset]) rfl) ?_
  show own_Go p e below _ (T2.setTop (mkF m 14 #[.val (.ref a), .val (.long q), .second, .val (.ref st), .val (.long (cn - q)), .second, .val (.int k), .unset, .unset, .unset] []))
  refine own_go (fun _ => XS.aloadN X2.here hx rfl (hb hby d5_14) rfl rfl) ?_
  obtain ⟨T3, X3, e3, st3⟩ := getF X2 hx hZ hown (host := "") (Or.inl (hw _ (List.mem_of_getElem? (i := 48) rfl))) Via.refl eh2 o_end0 (g := (mkF m 15 #[.val (.ref a), .val (.long q), .second, .val (.ref st), .val (.long (cn - q)), .second, .val (.int k), .unset, .unset, .unset] [(.ref a)])) rfl rfl (hb hby d5_15)
  refine own_go st3 ?_
  refine own_go (fun _ => XS.aloadN X3.here hx rfl (hb hby d5_18) rfl rfl) ?_
  obtain ⟨T4, X4, e4, st4⟩ := getF X3 hx hZ hown (host := "") (Or.inl (hw _ (List.mem_of_getElem? (i := 10) rfl))) Via.refl e3 o_from0 (g := (mkF m 19 #[.val (.ref a), .val (.long q), .second, .val (.ref st), .val (.long (cn - q)), .second, .val (.int k), .unset, .unset, .unset] [(.ref a), (.int (1 : Int32))])) rfl rfl (hb hby d5_19)
  refine own_go st4 ?_
  show own_Go p e below _ (T4.setTop (mkF m 22 #[.val (.ref a), .val (.long q), .second, .val (.ref st), .val (.long (cn - q)), .second, .val (.int k), .unset, .unset, .unset] [(.ref ff), (.int (1 : Int32))]))
  refine own_go (own_len X4 hx hZ e4 f_A0 (g := (mkF m 22 #[.val (.ref a), .val (.long q), .second, .val (.ref st), .val (.long (cn - q)), .second, .val (.int k), .unset, .unset, .unset] [(.ref ff), (.int (1 : Int32))])) rfl rfl (hb hby d5_22) (8 : Int32) (by rw [lf]; decide)) ?_
  refine own_go (fun _ => XS.icmpYes X4.here hx rfl (pc0 := 23) (pc' := 30) rfl (hb hby d5_23) rfl (XT.ii_ne_t (by decide)) (by decide) (by decide)) ?_
  refine own_go (fun _ => XS.aloadN X4.here hx rfl (hb hby d5_30) rfl rfl) ?_
  refine own_go (fun _ => XT.lloadN X4.here hx rfl (hb hby d5_31) rfl) ?_
  show own_Go p e below _ (T4.setTop (mkF m 32 #[.val (.ref a), .val (.long q), .second, .val (.ref st), .val (.long (cn - q)), .second, .val (.int k), .unset, .unset, .unset] [(.long q), (.ref a)]))
  obtain ⟨_, T5, L5, X5, ⟨rfl, eh5, rfl⟩, st5⟩ := own_callP X4 hx hZ hown (argsL := [(.long q)]) (rest := []) (own_floor1_con l Z a0 hw a ff ll kk fs ls ks q f0 h0 I1 g0 []) e4 o_E0 (hw _ (List.mem_of_getElem? (i := 50) rfl)) (hw _ (List.mem_of_getElem? (i := 51) rfl)) (hw _ (List.mem_of_getElem? (i := 52) rfl)) (hw _ (List.mem_of_getElem? (i := 1) rfl)) (hw _ (List.mem_of_getElem? (i := 2) rfl)) (hw _ (List.mem_of_getElem? (i := 53) rfl)) (by decide) (by decide +kernel : parseMethodDescriptor "(J)I" = some ⟨[.long], some .int⟩) rfl (g := (mkF m 32 #[.val (.ref a), .val (.long q), .second, .val (.ref st), .val (.long (cn - q)), .second, .val (.int k), .unset, .unset, .unset] [(.long q), (.ref a)])) rfl (by rw [hml]; rfl) rfl 0 (by show 2 * 0 + _ ≤ _; exact Nat.le_of_eq rfl) (hb hby d5_32) (by decide) (by decide) (by decide) (by decide)
  rw [List.append_nil] at X5
  refine own_go st5 ?_
  have e0 : ¬ q < f0 := fun z => by rw [Int64.lt_iff_toInt_lt] at z p0; omega
  have ef : (if q < f0 then (-1 : Int32) else 0) = (0 : Int32) := by simp only [e0, if_false]
  show own_Go p e below _ (T5.setTop (mkF m 35 #[.val (.ref a), .val (.long q), .second, .val (.ref st), .val (.long (cn - q)), .second, .val (.int k), .unset, .unset, .unset] [(.int (if q < f0 then (-1 : Int32) else 0))]))
  rw [ef]
  refine own_go (fun _ => XS.istore X5.here hx rfl (hb hby d5_35) rfl (l' := #[.val (.ref a), .val (.long q), .second, .val (.ref st), .val (.long (cn - q)), .second, .val (.int k), .val (.int (0 : Int32)), .unset, .unset]) rfl) ?_
  refine own_go (fun _ => XS.iload X5.here hx rfl (hb hby d5_37) rfl) ?_
  refine own_go (fun _ => XS.aloadN X5.here hx rfl (hb hby d5_39) rfl rfl) ?_
  show own_Go p e below _ (T5.setTop (mkF m 40 #[.val (.ref a), .val (.long q), .second, .val (.ref st), .val (.long (cn - q)), .second, .val (.int k), .val (.int (0 : Int32)), .unset, .unset] [(.ref a), (.int (0 : Int32))]))
  obtain ⟨T6, X6, e6, st6⟩ := getF X5 hx hZ hown (host := "") (Or.inl (hw _ (List.mem_of_getElem? (i := 54) rfl))) Via.refl eh5 o_start0 (g := (mkF m 40 #[.val (.ref a), .val (.long q), .second, .val (.ref st), .val (.long (cn - q)), .second, .val (.int k), .val (.int (0 : Int32)), .unset, .unset] [(.ref a), (.int (0 : Int32))])) rfl rfl (hb hby d5_40)
  refine own_go st6 ?_
  refine own_go (fun _ => XS.icmpNo X6.here hx rfl (hb hby d5_43) rfl (XT.ii_lt_f (by decide))) ?_
  refine own_go (fun _ => XS.aloadN X6.here hx rfl (hb hby d5_46) rfl rfl) ?_
  refine own_go (fun _ => XS.iload X6.here hx rfl (hb hby d5_47) rfl) ?_
  show own_Go p e below _ (T6.setTop (mkF m 49 #[.val (.ref a), .val (.long q), .second, .val (.ref st), .val (.long (cn - q)), .second, .val (.int k), .val (.int (0 : Int32)), .unset, .unset] [(.int (0 : Int32)), (.ref a)]))
  refine own_go (fun _ => XT.lload X6.here hx rfl (hb hby d5_49) rfl) ?_
  refine own_go (fun _ => XS.iload X6.here hx rfl (hb hby d5_51) rfl) ?_
  obtain ⟨_, T7, L7, X7, ⟨rfl, eh7, rfl⟩, st7⟩ := own_callP X6 hx hZ hown (argsL := [(.int (0 : Int32)), (.long (cn - q)), (.int k)]) (rest := []) (own_compare_con l Z a0 hw a ff ll kk fs ls ks 1 (0 : Int32) k 0 u (cn - q) h0 I1 (by decide) hu hlt []) e6 o_E0 (hw _ (List.mem_of_getElem? (i := 61) rfl)) (hw _ (List.mem_of_getElem? (i := 62) rfl)) (hw _ (List.mem_of_getElem? (i := 63) rfl)) (hw _ (List.mem_of_getElem? (i := 1) rfl)) (hw _ (List.mem_of_getElem? (i := 2) rfl)) (hw _ (List.mem_of_getElem? (i := 64) rfl)) (by decide) (by decide +kernel : parseMethodDescriptor "(IJI)I" = some ⟨[.int, .long, .int], some .int⟩) rfl (g := (mkF m 53 #[.val (.ref a), .val (.long q), .second, .val (.ref st), .val (.long (cn - q)), .second, .val (.int k), .val (.int (0 : Int32)), .unset, .unset] [(.int k), (.long (cn - q)), (.int (0 : Int32)), (.ref a)])) rfl (by rw [hml]; rfl) rfl 0 (by show 2 * 0 + _ ≤ _; exact Nat.le_of_eq rfl) (hb hby d5_53) (by decide) (by decide) (by decide) (by decide)
  rw [List.append_nil] at X7
  refine own_go st7 ?_
  refine own_go (fun _ => XS.ifYes X7.here hx rfl (pc0 := 56) (pc' := 60) rfl (hb hby d5_56) rfl (XT.i0_lt_t (by decide)) (by decide) (by decide)) ?_
  show own_Go p e below _ (T7.setTop (mkF m 60 #[.val (.ref a), .val (.long q), .second, .val (.ref st), .val (.long (cn - q)), .second, .val (.int k), .val (.int (0 : Int32)), .unset, .unset] []))
  refine own_go (fun _ => XS.iload X7.here hx rfl (hb hby d5_60) rfl) ?_
  refine own_go (fun _ => XS.aloadN X7.here hx rfl (hb hby d5_62) rfl rfl) ?_
  obtain ⟨T8, X8, e8, st8⟩ := getF X7 hx hZ hown (host := "") (Or.inl (hw _ (List.mem_of_getElem? (i := 54) rfl))) Via.refl eh7 o_start0 (g := (mkF m 63 #[.val (.ref a), .val (.long q), .second, .val (.ref st), .val (.long (cn - q)), .second, .val (.int k), .val (.int (0 : Int32)), .unset, .unset] [(.ref a), (.int (0 : Int32))])) rfl rfl (hb hby d5_63)
  refine own_go st8 ?_
  refine own_go (fun _ => XS.icmpNo X8.here hx rfl (hb hby d5_66) rfl (XT.ii_lt_f (by decide))) ?_
  show own_Go p e below _ (T8.setTop (mkF m 69 #[.val (.ref a), .val (.long q), .second, .val (.ref st), .val (.long (cn - q)), .second, .val (.int k), .val (.int (0 : Int32)), .unset, .unset] []))
  refine own_go (fun _ => XS.aloadN X8.here hx rfl (hb hby d5_69) rfl rfl) ?_
  obtain ⟨T9, X9, e9, st9⟩ := getF X8 hx hZ hown (host := "") (Or.inl (hw _ (List.mem_of_getElem? (i := 10) rfl))) Via.refl e8 o_from0 (g := (mkF m 70 #[.val (.ref a), .val (.long q), .second, .val (.ref st), .val (.long (cn - q)), .second, .val (.int k), .val (.int (0 : Int32)), .unset, .unset] [(.ref a)])) rfl rfl (hb hby d5_70)
  refine own_go st9 ?_
  refine own_go (fun _ => XS.iload X9.here hx rfl (hb hby d5_73) rfl) ?_
  refine own_go (own_ldJ X9 hx hZ e9 f_A0 (g := (mkF m 75 #[.val (.ref a), .val (.long q), .second, .val (.ref st), .val (.long (cn - q)), .second, .val (.int k), .val (.int (0 : Int32)), .unset, .unset] [(.int (0 : Int32)), (.ref ff)])) rfl rfl (hb hby d5_75) 0 (by decide) (x := (.long f0)) g0) ?_
  show own_Go p e below _ (T9.setTop (mkF m 76 #[.val (.ref a), .val (.long q), .second, .val (.ref st), .val (.long (cn - q)), .second, .val (.int k), .val (.int (0 : Int32)), .unset, .unset] [(.long f0)]))
  refine own_go (fun _ => XT.lloadN X9.here hx rfl (hb hby d5_76) rfl) ?_
  refine own_go (fun _ => XT.lcmp X9.here hx rfl (hb hby d5_77) rfl) ?_
  refine own_go (fun _ => XS.ifYes X9.here hx rfl (pc0 := 78) (pc' := 86) rfl (hb hby d5_78) rfl (XT.ll_ne_t (fun z => by rw [z, Int64.lt_iff_toInt_lt] at p0; omega)) (by decide) (by decide)) ?_
  refine own_go (fun _ => XS.iload X9.here hx rfl (hb hby d5_86) rfl) ?_
  show own_Go p e below _ (T9.setTop (mkF m 88 #[.val (.ref a), .val (.long q), .second, .val (.ref st), .val (.long (cn - q)), .second, .val (.int k), .val (.int (0 : Int32)), .unset, .unset] [(.int (0 : Int32))]))
  refine own_go (fun _ => XS.iconst X9.here hx rfl (hb hby d5_88)) ?_
  refine own_go (fun _ => XS.iadd X9.here hx rfl (hb hby d5_89) rfl) ?_
  refine own_go (fun _ => XS.istore X9.here hx rfl (hb hby d5_90) rfl (l' := #[.val (.ref a), .val (.long q), .second, .val (.ref st), .val (.long (cn - q)), .second, .val (.int k), .val (.int (0 : Int32)), .val (.int ((0 : Int32) + (1 : Int32))), .unset]) rfl) ?_
  refine own_go (fun _ => XS.iload X9.here hx rfl (hb hby d5_92) rfl) ?_
  show own_Go p e below _ (T9.setTop (mkF m 94 #[.val (.ref a), .val (.long q), .second, .val (.ref st), .val (.long (cn - q)), .second, .val (.int k), .val (.int (0 : Int32)), .val (.int ((0 : Int32) + (1 : Int32))), .unset] [(.int (0 : Int32))]))
  refine own_go (fun _ => XS.iconst X9.here hx rfl (hb hby d5_94)) ?_
  refine own_go (fun _ => XS.iadd X9.here hx rfl (hb hby d5_95) rfl) ?_
  refine own_go (fun _ => XS.istore X9.here hx rfl (hb hby d5_96) rfl (l' := #[.val (.ref a), .val (.long q), .second, .val (.ref st), .val (.long (cn - q)), .second, .val (.int k), .val (.int (0 : Int32)), .val (.int ((0 : Int32) + (1 : Int32))), .val (.int ((0 : Int32) + (1 : Int32)))]) rfl) ?_
  refine own_go (fun _ => XS.iload X9.here hx rfl (hb hby d5_98) rfl) ?_
  show own_Go p e below _ (T9.setTop (mkF m 100 #[.val (.ref a), .val (.long q), .second, .val (.ref st), .val (.long (cn - q)), .second, .val (.int k), .val (.int (0 : Int32)), .val (.int ((0 : Int32) + (1 : Int32))), .val (.int ((0 : Int32) + (1 : Int32)))] [(.int ((0 : Int32) + (1 : Int32)))]))
  refine own_go (fun _ => XS.aloadN X9.here hx rfl (hb hby d5_100) rfl rfl) ?_
  obtain ⟨T10, X10, e10, st10⟩ := getF X9 hx hZ hown (host := "") (Or.inl (hw _ (List.mem_of_getElem? (i := 48) rfl))) Via.refl e9 o_end0 (g := (mkF m 101 #[.val (.ref a), .val (.long q), .second, .val (.ref st), .val (.long (cn - q)), .second, .val (.int k), .val (.int (0 : Int32)), .val (.int ((0 : Int32) + (1 : Int32))), .val (.int ((0 : Int32) + (1 : Int32)))] [(.ref a), (.int ((0 : Int32) + (1 : Int32)))])) rfl rfl (hb hby d5_101)
  refine own_go st10 ?_
  refine own_go (fun _ => XS.icmpYes X10.here hx rfl (pc0 := 104) (pc' := 126) rfl (hb hby d5_104) rfl (XT.ii_ge_t (by decide)) (by decide) (by decide)) ?_
  refine own_go (fun _ => XS.aloadN X10.here hx rfl (hb hby d5_126) rfl rfl) ?_
  show own_Go p e below _ (T10.setTop (mkF m 127 #[.val (.ref a), .val (.long q), .second, .val (.ref st), .val (.long (cn - q)), .second, .val (.int k), .val (.int (0 : Int32)), .val (.int ((0 : Int32) + (1 : Int32))), .val (.int ((0 : Int32) + (1 : Int32)))] [(.ref a)]))
  obtain ⟨T11, X11, e11, st11⟩ := getF X10 hx hZ hown (host := "") (Or.inl (hw _ (List.mem_of_getElem? (i := 10) rfl))) Via.refl e10 o_from0 (g := (mkF m 127 #[.val (.ref a), .val (.long q), .second, .val (.ref st), .val (.long (cn - q)), .second, .val (.int k), .val (.int (0 : Int32)), .val (.int ((0 : Int32) + (1 : Int32))), .val (.int ((0 : Int32) + (1 : Int32)))] [(.ref a)])) rfl rfl (hb hby d5_127)
  refine own_go st11 ?_
  refine own_go (fun _ => XS.iload X11.here hx rfl (hb hby d5_130) rfl) ?_
  refine own_go (fun _ => XS.aloadN X11.here hx rfl (hb hby d5_132) rfl rfl) ?_
  obtain ⟨T12, X12, e12, st12⟩ := getF X11 hx hZ hown (host := "") (Or.inl (hw _ (List.mem_of_getElem? (i := 10) rfl))) Via.refl e11 o_from0 (g := (mkF m 133 #[.val (.ref a), .val (.long q), .second, .val (.ref st), .val (.long (cn - q)), .second, .val (.int k), .val (.int (0 : Int32)), .val (.int ((0 : Int32) + (1 : Int32))), .val (.int ((0 : Int32) + (1 : Int32)))] [(.ref a), (.int ((0 : Int32) + (1 : Int32))), (.ref ff)])) rfl rfl (hb hby d5_133)
  refine own_go st12 ?_
  show own_Go p e below _ (T12.setTop (mkF m 136 #[.val (.ref a), .val (.long q), .second, .val (.ref st), .val (.long (cn - q)), .second, .val (.int k), .val (.int (0 : Int32)), .val (.int ((0 : Int32) + (1 : Int32))), .val (.int ((0 : Int32) + (1 : Int32)))] [(.ref ff), (.int ((0 : Int32) + (1 : Int32))), (.ref ff)]))
  refine own_go (fun _ => XS.iload X12.here hx rfl (hb hby d5_136) rfl) ?_
  refine own_go (fun _ => XS.iconst X12.here hx rfl (hb hby d5_138)) ?_
  refine own_go (fun _ => XS.iadd X12.here hx rfl (hb hby d5_139) rfl) ?_
  refine own_go (fun _ => XS.aloadN X12.here hx rfl (hb hby d5_140) rfl rfl) ?_
  show own_Go p e below _ (T12.setTop (mkF m 141 #[.val (.ref a), .val (.long q), .second, .val (.ref st), .val (.long (cn - q)), .second, .val (.int k), .val (.int (0 : Int32)), .val (.int ((0 : Int32) + (1 : Int32))), .val (.int ((0 : Int32) + (1 : Int32)))] [(.ref a), (.int (((0 : Int32) + (1 : Int32)) + (1 : Int32))), (.ref ff), (.int ((0 : Int32) + (1 : Int32))), (.ref ff)]))
  obtain ⟨T13, X13, e13, st13⟩ := getF X12 hx hZ hown (host := "") (Or.inl (hw _ (List.mem_of_getElem? (i := 48) rfl))) Via.refl e12 o_end0 (g := (mkF m 141 #[.val (.ref a), .val (.long q), .second, .val (.ref st), .val (.long (cn - q)), .second, .val (.int k), .val (.int (0 : Int32)), .val (.int ((0 : Int32) + (1 : Int32))), .val (.int ((0 : Int32) + (1 : Int32)))] [(.ref a), (.int (((0 : Int32) + (1 : Int32)) + (1 : Int32))), (.ref ff), (.int ((0 : Int32) + (1 : Int32))), (.ref ff)])) rfl rfl (hb hby d5_141)
  refine own_go st13 ?_
  refine own_go (fun _ => XS.iload X13.here hx rfl (hb hby d5_144) rfl) ?_
  refine own_go (fun _ => XS.isub X13.here hx rfl (hb hby d5_146) rfl) ?_
  obtain ⟨T14, h14, L14, X14, e14, N14, Kc14, A14, st14⟩ := own_copy X13 hx hZ hown (hw _ (List.mem_of_getElem? (i := 56) rfl)) (hw _ (List.mem_of_getElem? (i := 59) rfl)) (hw _ (List.mem_of_getElem? (i := 57) rfl)) (hw _ (List.mem_of_getElem? (i := 58) rfl)) e13 f_A0 f_A0 rfl (g := (mkF m 147 #[.val (.ref a), .val (.long q), .second, .val (.ref st), .val (.long (cn - q)), .second, .val (.int k), .val (.int (0 : Int32)), .val (.int ((0 : Int32) + (1 : Int32))), .val (.int ((0 : Int32) + (1 : Int32)))] [(.int ((1 : Int32) - ((0 : Int32) + (1 : Int32)))), (.int (((0 : Int32) + (1 : Int32)) + (1 : Int32))), (.ref ff), (.int ((0 : Int32) + (1 : Int32))), (.ref ff)])) rfl (by rw [hml]; rfl) rfl (hb hby d5_147) 1 2 0 (by decide) (by decide) (by decide) (by rw [lf]; decide) (by rw [lf]; decide) N0 gf 0 (by show 2 * 0 + _ ≤ _; exact Nat.le_of_eq rfl) (by decide) (by decide)
  have o_E_14 := o_E0.keep Kc14
  have o_from_14 := o_from0.keep Kc14 (ninS ne_a_ff nin0)
  have o_lead_14 := o_lead0.keep Kc14 (ninS ne_a_ff nin0)
  have o_member_14 := o_member0.keep Kc14 (ninS ne_a_ff nin0)
  have o_start_14 := o_start0.keep Kc14 (ninS ne_a_ff nin0)
  have o_end_14 := o_end0.keep Kc14 (ninS ne_a_ff nin0)
  have l_A_14 := l_A0.keep Kc14 (ninS (Ne.symm ne_ff_ll) nin0)
  have k_A_14 := k_A0.keep Kc14 (ninS (Ne.symm ne_ff_kk) nin0)
  have st_E_14 := st_E.keep Kc14
  have K14 := K0.trans Kc14 (allS (Or.inl (List.mem_of_getElem? (i := 1) rfl)) all0)
  refine own_go st14 ?_
  show own_Go p e below _ (T14.setTop (mkF m 150 #[.val (.ref a), .val (.long q), .second, .val (.ref st), .val (.long (cn - q)), .second, .val (.int k), .val (.int (0 : Int32)), .val (.int ((0 : Int32) + (1 : Int32))), .val (.int ((0 : Int32) + (1 : Int32)))] []))
  rw [own_cut0] at A14
  refine own_go (fun _ => XS.aloadN X14.here hx rfl (hb hby d5_150) rfl rfl) ?_
  obtain ⟨T15, X15, e15, st15⟩ := getF X14 hx hZ hown (host := "") (Or.inl (hw _ (List.mem_of_getElem? (i := 12) rfl))) Via.refl e14 o_lead_14 (g := (mkF m 151 #[.val (.ref a), .val (.long q), .second, .val (.ref st), .val (.long (cn - q)), .second, .val (.int k), .val (.int (0 : Int32)), .val (.int ((0 : Int32) + (1 : Int32))), .val (.int ((0 : Int32) + (1 : Int32)))] [(.ref a)])) rfl rfl (hb hby d5_151)
  refine own_go st15 ?_
  refine own_go (fun _ => XS.iload X15.here hx rfl (hb hby d5_154) rfl) ?_
  refine own_go (fun _ => XS.aloadN X15.here hx rfl (hb hby d5_156) rfl rfl) ?_
  show own_Go p e below _ (T15.setTop (mkF m 157 #[.val (.ref a), .val (.long q), .second, .val (.ref st), .val (.long (cn - q)), .second, .val (.int k), .val (.int (0 : Int32)), .val (.int ((0 : Int32) + (1 : Int32))), .val (.int ((0 : Int32) + (1 : Int32)))] [(.ref a), (.int ((0 : Int32) + (1 : Int32))), (.ref ll)]))
  obtain ⟨T16, X16, e16, st16⟩ := getF X15 hx hZ hown (host := "") (Or.inl (hw _ (List.mem_of_getElem? (i := 12) rfl))) Via.refl e15 o_lead_14 (g := (mkF m 157 #[.val (.ref a), .val (.long q), .second, .val (.ref st), .val (.long (cn - q)), .second, .val (.int k), .val (.int (0 : Int32)), .val (.int ((0 : Int32) + (1 : Int32))), .val (.int ((0 : Int32) + (1 : Int32)))] [(.ref a), (.int ((0 : Int32) + (1 : Int32))), (.ref ll)])) rfl rfl (hb hby d5_157)
  refine own_go st16 ?_
  refine own_go (fun _ => XS.iload X16.here hx rfl (hb hby d5_160) rfl) ?_
  refine own_go (fun _ => XS.iconst X16.here hx rfl (hb hby d5_162)) ?_
  refine own_go (fun _ => XS.iadd X16.here hx rfl (hb hby d5_163) rfl) ?_
  show own_Go p e below _ (T16.setTop (mkF m 164 #[.val (.ref a), .val (.long q), .second, .val (.ref st), .val (.long (cn - q)), .second, .val (.int k), .val (.int (0 : Int32)), .val (.int ((0 : Int32) + (1 : Int32))), .val (.int ((0 : Int32) + (1 : Int32)))] [(.int (((0 : Int32) + (1 : Int32)) + (1 : Int32))), (.ref ll), (.int ((0 : Int32) + (1 : Int32))), (.ref ll)]))
  refine own_go (fun _ => XS.aloadN X16.here hx rfl (hb hby d5_164) rfl rfl) ?_
  obtain ⟨T17, X17, e17, st17⟩ := getF X16 hx hZ hown (host := "") (Or.inl (hw _ (List.mem_of_getElem? (i := 48) rfl))) Via.refl e16 o_end_14 (g := (mkF m 165 #[.val (.ref a), .val (.long q), .second, .val (.ref st), .val (.long (cn - q)), .second, .val (.int k), .val (.int (0 : Int32)), .val (.int ((0 : Int32) + (1 : Int32))), .val (.int ((0 : Int32) + (1 : Int32)))] [(.ref a), (.int (((0 : Int32) + (1 : Int32)) + (1 : Int32))), (.ref ll), (.int ((0 : Int32) + (1 : Int32))), (.ref ll)])) rfl rfl (hb hby d5_165)
  refine own_go st17 ?_
  refine own_go (fun _ => XS.iload X17.here hx rfl (hb hby d5_168) rfl) ?_
  refine own_go (fun _ => XS.isub X17.here hx rfl (hb hby d5_170) rfl) ?_
  show own_Go p e below _ (T17.setTop (mkF m 171 #[.val (.ref a), .val (.long q), .second, .val (.ref st), .val (.long (cn - q)), .second, .val (.int k), .val (.int (0 : Int32)), .val (.int ((0 : Int32) + (1 : Int32))), .val (.int ((0 : Int32) + (1 : Int32)))] [(.int ((1 : Int32) - ((0 : Int32) + (1 : Int32)))), (.int (((0 : Int32) + (1 : Int32)) + (1 : Int32))), (.ref ll), (.int ((0 : Int32) + (1 : Int32))), (.ref ll)]))
  obtain ⟨T18, h18, L18, X18, e18, N18, Kc18, A18, st18⟩ := own_copy X17 hx hZ hown (hw _ (List.mem_of_getElem? (i := 56) rfl)) (hw _ (List.mem_of_getElem? (i := 59) rfl)) (hw _ (List.mem_of_getElem? (i := 57) rfl)) (hw _ (List.mem_of_getElem? (i := 58) rfl)) e17 l_A_14 l_A_14 rfl (g := (mkF m 171 #[.val (.ref a), .val (.long q), .second, .val (.ref st), .val (.long (cn - q)), .second, .val (.int k), .val (.int (0 : Int32)), .val (.int ((0 : Int32) + (1 : Int32))), .val (.int ((0 : Int32) + (1 : Int32)))] [(.int ((1 : Int32) - ((0 : Int32) + (1 : Int32)))), (.int (((0 : Int32) + (1 : Int32)) + (1 : Int32))), (.ref ll), (.int ((0 : Int32) + (1 : Int32))), (.ref ll)])) rfl (by rw [hml]; rfl) rfl (hb hby d5_171) 1 2 0 (by decide) (by decide) (by decide) (by rw [lL]; decide) (by rw [lL]; decide) N14 gl 0 (by show 2 * 0 + _ ≤ _; exact Nat.le_of_eq rfl) (by decide) (by decide)
  have o_E_18 := o_E_14.keep Kc18
  have o_from_18 := o_from_14.keep Kc18 (ninS ne_a_ll nin0)
  have o_lead_18 := o_lead_14.keep Kc18 (ninS ne_a_ll nin0)
  have o_member_18 := o_member_14.keep Kc18 (ninS ne_a_ll nin0)
  have o_start_18 := o_start_14.keep Kc18 (ninS ne_a_ll nin0)
  have o_end_18 := o_end_14.keep Kc18 (ninS ne_a_ll nin0)
  have k_A_18 := k_A_14.keep Kc18 (ninS (Ne.symm ne_ll_kk) nin0)
  have st_E_18 := st_E_14.keep Kc18
  have f_A_18 := A14.keep Kc18 (ninS ne_ff_ll nin0)
  have K18 := K14.trans Kc18 (allS (Or.inl (List.mem_of_getElem? (i := 2) rfl)) all0)
  refine own_go st18 ?_
  rw [own_cut0] at A18
  refine own_go (fun _ => XS.aloadN X18.here hx rfl (hb hby d5_174) rfl rfl) ?_
  obtain ⟨T19, X19, e19, st19⟩ := getF X18 hx hZ hown (host := "") (Or.inl (hw _ (List.mem_of_getElem? (i := 15) rfl))) Via.refl e18 o_member_18 (g := (mkF m 175 #[.val (.ref a), .val (.long q), .second, .val (.ref st), .val (.long (cn - q)), .second, .val (.int k), .val (.int (0 : Int32)), .val (.int ((0 : Int32) + (1 : Int32))), .val (.int ((0 : Int32) + (1 : Int32)))] [(.ref a)])) rfl rfl (hb hby d5_175)
  refine own_go st19 ?_
  refine own_go (fun _ => XS.iload X19.here hx rfl (hb hby d5_178) rfl) ?_
  show own_Go p e below _ (T19.setTop (mkF m 180 #[.val (.ref a), .val (.long q), .second, .val (.ref st), .val (.long (cn - q)), .second, .val (.int k), .val (.int (0 : Int32)), .val (.int ((0 : Int32) + (1 : Int32))), .val (.int ((0 : Int32) + (1 : Int32)))] [(.int ((0 : Int32) + (1 : Int32))), (.ref kk)]))
  refine own_go (fun _ => XS.aloadN X19.here hx rfl (hb hby d5_180) rfl rfl) ?_
  obtain ⟨T20, X20, e20, st20⟩ := getF X19 hx hZ hown (host := "") (Or.inl (hw _ (List.mem_of_getElem? (i := 15) rfl))) Via.refl e19 o_member_18 (g := (mkF m 181 #[.val (.ref a), .val (.long q), .second, .val (.ref st), .val (.long (cn - q)), .second, .val (.int k), .val (.int (0 : Int32)), .val (.int ((0 : Int32) + (1 : Int32))), .val (.int ((0 : Int32) + (1 : Int32)))] [(.ref a), (.int ((0 : Int32) + (1 : Int32))), (.ref kk)])) rfl rfl (hb hby d5_181)
  refine own_go st20 ?_
  refine own_go (fun _ => XS.iload X20.here hx rfl (hb hby d5_184) rfl) ?_
  refine own_go (fun _ => XS.iconst X20.here hx rfl (hb hby d5_186)) ?_
  show own_Go p e below _ (T20.setTop (mkF m 187 #[.val (.ref a), .val (.long q), .second, .val (.ref st), .val (.long (cn - q)), .second, .val (.int k), .val (.int (0 : Int32)), .val (.int ((0 : Int32) + (1 : Int32))), .val (.int ((0 : Int32) + (1 : Int32)))] [(.int (1 : Int32)), (.int ((0 : Int32) + (1 : Int32))), (.ref kk), (.int ((0 : Int32) + (1 : Int32))), (.ref kk)]))
  refine own_go (fun _ => XS.iadd X20.here hx rfl (hb hby d5_187) rfl) ?_
  refine own_go (fun _ => XS.aloadN X20.here hx rfl (hb hby d5_188) rfl rfl) ?_
  obtain ⟨T21, X21, e21, st21⟩ := getF X20 hx hZ hown (host := "") (Or.inl (hw _ (List.mem_of_getElem? (i := 48) rfl))) Via.refl e20 o_end_18 (g := (mkF m 189 #[.val (.ref a), .val (.long q), .second, .val (.ref st), .val (.long (cn - q)), .second, .val (.int k), .val (.int (0 : Int32)), .val (.int ((0 : Int32) + (1 : Int32))), .val (.int ((0 : Int32) + (1 : Int32)))] [(.ref a), (.int (((0 : Int32) + (1 : Int32)) + (1 : Int32))), (.ref kk), (.int ((0 : Int32) + (1 : Int32))), (.ref kk)])) rfl rfl (hb hby d5_189)
  refine own_go st21 ?_
  refine own_go (fun _ => XS.iload X21.here hx rfl (hb hby d5_192) rfl) ?_
  show own_Go p e below _ (T21.setTop (mkF m 194 #[.val (.ref a), .val (.long q), .second, .val (.ref st), .val (.long (cn - q)), .second, .val (.int k), .val (.int (0 : Int32)), .val (.int ((0 : Int32) + (1 : Int32))), .val (.int ((0 : Int32) + (1 : Int32)))] [(.int ((0 : Int32) + (1 : Int32))), (.int (1 : Int32)), (.int (((0 : Int32) + (1 : Int32)) + (1 : Int32))), (.ref kk), (.int ((0 : Int32) + (1 : Int32))), (.ref kk)]))
  refine own_go (fun _ => XS.isub X21.here hx rfl (hb hby d5_194) rfl) ?_
  obtain ⟨T22, h22, L22, X22, e22, N22, Kc22, A22, st22⟩ := own_copy X21 hx hZ hown (hw _ (List.mem_of_getElem? (i := 56) rfl)) (hw _ (List.mem_of_getElem? (i := 59) rfl)) (hw _ (List.mem_of_getElem? (i := 57) rfl)) (hw _ (List.mem_of_getElem? (i := 58) rfl)) e21 k_A_18 k_A_18 rfl (g := (mkF m 195 #[.val (.ref a), .val (.long q), .second, .val (.ref st), .val (.long (cn - q)), .second, .val (.int k), .val (.int (0 : Int32)), .val (.int ((0 : Int32) + (1 : Int32))), .val (.int ((0 : Int32) + (1 : Int32)))] [(.int ((1 : Int32) - ((0 : Int32) + (1 : Int32)))), (.int (((0 : Int32) + (1 : Int32)) + (1 : Int32))), (.ref kk), (.int ((0 : Int32) + (1 : Int32))), (.ref kk)])) rfl (by rw [hml]; rfl) rfl (hb hby d5_195) 1 2 0 (by decide) (by decide) (by decide) (by rw [lk]; decide) (by rw [lk]; decide) N18 gk 0 (by show 2 * 0 + _ ≤ _; exact Nat.le_of_eq rfl) (by decide) (by decide)
  have o_E_22 := o_E_18.keep Kc22
  have o_from_22 := o_from_18.keep Kc22 (ninS ne_a_kk nin0)
  have o_lead_22 := o_lead_18.keep Kc22 (ninS ne_a_kk nin0)
  have o_member_22 := o_member_18.keep Kc22 (ninS ne_a_kk nin0)
  have o_start_22 := o_start_18.keep Kc22 (ninS ne_a_kk nin0)
  have o_end_22 := o_end_18.keep Kc22 (ninS ne_a_kk nin0)
  have st_E_22 := st_E_18.keep Kc22
  have f_A_22 := f_A_18.keep Kc22 (ninS ne_ff_kk nin0)
  have l_A_22 := A18.keep Kc22 (ninS ne_ll_kk nin0)
  have K22 := K18.trans Kc22 (allS (Or.inl (List.mem_of_getElem? (i := 3) rfl)) all0)
  refine own_go st22 ?_
  rw [own_cut0] at A22
  refine own_go (fun _ => XS.aloadN X22.here hx rfl (hb hby d5_198) rfl rfl) ?_
  refine own_go (fun _ => XS.iload X22.here hx rfl (hb hby d5_199) rfl) ?_
  show own_Go p e below _ (T22.setTop (mkF m 201 #[.val (.ref a), .val (.long q), .second, .val (.ref st), .val (.long (cn - q)), .second, .val (.int k), .val (.int (0 : Int32)), .val (.int ((0 : Int32) + (1 : Int32))), .val (.int ((0 : Int32) + (1 : Int32)))] [(.int ((0 : Int32) + (1 : Int32))), (.ref a)]))
  refine own_go (fun _ => XS.iconst X22.here hx rfl (hb hby d5_201)) ?_
  refine own_go (fun _ => XS.iadd X22.here hx rfl (hb hby d5_202) rfl) ?_
  refine own_go (fun _ => XS.aloadN X22.here hx rfl (hb hby d5_203) rfl rfl) ?_
  obtain ⟨T23, X23, e23, st23⟩ := getF X22 hx hZ hown (host := "") (Or.inl (hw _ (List.mem_of_getElem? (i := 48) rfl))) Via.refl e22 o_end_22 (g := (mkF m 204 #[.val (.ref a), .val (.long q), .second, .val (.ref st), .val (.long (cn - q)), .second, .val (.int k), .val (.int (0 : Int32)), .val (.int ((0 : Int32) + (1 : Int32))), .val (.int ((0 : Int32) + (1 : Int32)))] [(.ref a), (.int (((0 : Int32) + (1 : Int32)) + (1 : Int32))), (.ref a)])) rfl rfl (hb hby d5_204)
  refine own_go st23 ?_
  show own_Go p e below _ (T23.setTop (mkF m 207 #[.val (.ref a), .val (.long q), .second, .val (.ref st), .val (.long (cn - q)), .second, .val (.int k), .val (.int (0 : Int32)), .val (.int ((0 : Int32) + (1 : Int32))), .val (.int ((0 : Int32) + (1 : Int32)))] [(.int (1 : Int32)), (.int (((0 : Int32) + (1 : Int32)) + (1 : Int32))), (.ref a)]))
  refine own_go (fun _ => XS.iadd X23.here hx rfl (hb hby d5_207) rfl) ?_
  refine own_go (fun _ => XS.iload X23.here hx rfl (hb hby d5_208) rfl) ?_
  refine own_go (fun _ => XS.isub X23.here hx rfl (hb hby d5_210) rfl) ?_
  obtain ⟨T24, h24, X24, e24, W24, st24⟩ := putF X23 hx hZ hown (host := "") (Or.inl (hw _ (List.mem_of_getElem? (i := 48) rfl))) Via.refl e23 o_end_22 o_E_22 (Or.inl (hw _ (List.mem_of_getElem? (i := 49) rfl))) (hw _ (List.mem_of_getElem? (i := 1) rfl)) (ty := .int) (by decide) rfl rfl (g := (mkF m 211 #[.val (.ref a), .val (.long q), .second, .val (.ref st), .val (.long (cn - q)), .second, .val (.int k), .val (.int (0 : Int32)), .val (.int ((0 : Int32) + (1 : Int32))), .val (.int ((0 : Int32) + (1 : Int32)))] [(.int (((((0 : Int32) + (1 : Int32)) + (1 : Int32)) + (1 : Int32)) - ((0 : Int32) + (1 : Int32)))), (.ref a)])) rfl rfl (hb hby d5_211)
  have N24 := Fr.snoc X24 N22 ga
  have o_E_24 := o_E_22.wr W24
  have o_from_24 := o_from_22.other W24 (Or.inr (slot_ne (t := (.array .long)) (t' := .int) (Or.inl (hw _ (List.mem_of_getElem? (i := 11) rfl))) (Or.inl (hw _ (List.mem_of_getElem? (i := 49) rfl))) (by decide) (by decide) (by decide)))
  have o_lead_24 := o_lead_22.other W24 (Or.inr (slot_ne (t := (.array .long)) (t' := .int) (Or.inl (hw _ (List.mem_of_getElem? (i := 13) rfl))) (Or.inl (hw _ (List.mem_of_getElem? (i := 49) rfl))) (by decide) (by decide) (by decide)))
  have o_member_24 := o_member_22.other W24 (Or.inr (slot_ne (t := (.array .int)) (t' := .int) (Or.inl (hw _ (List.mem_of_getElem? (i := 16) rfl))) (Or.inl (hw _ (List.mem_of_getElem? (i := 49) rfl))) (by decide) (by decide) (by decide)))
  have o_start_24 := o_start_22.other W24 (Or.inr (slot_ne (t := .int) (t' := .int) (Or.inl (hw _ (List.mem_of_getElem? (i := 55) rfl))) (Or.inl (hw _ (List.mem_of_getElem? (i := 49) rfl))) (by decide) (by decide) (by decide)))
  have o_end_24 := o_end_22.same W24
  have st_E_24 := st_E_22.wr W24
  have f_A_24 := f_A_22.other W24 (Ne.symm ne_a_ff)
  have l_A_24 := l_A_22.other W24 (Ne.symm ne_a_ll)
  have k_A_24 := A22.other W24 (Ne.symm ne_a_kk)
  have K24 := K22.wr W24 (Or.inl (List.mem_of_getElem? (i := 0) rfl))
  refine own_go st24 ?_
  show own_Go p e below _ (T24.setTop (mkF m 214 #[.val (.ref a), .val (.long q), .second, .val (.ref st), .val (.long (cn - q)), .second, .val (.int k), .val (.int (0 : Int32)), .val (.int ((0 : Int32) + (1 : Int32))), .val (.int ((0 : Int32) + (1 : Int32)))] []))
  refine own_go (fun _ => XS.aloadN X24.here hx rfl (hb hby d5_214) rfl rfl) ?_
  obtain ⟨T25, X25, e25, st25⟩ := getF X24 hx hZ hown (host := "") (Or.inl (hw _ (List.mem_of_getElem? (i := 10) rfl))) Via.refl e24 o_from_24 (g := (mkF m 215 #[.val (.ref a), .val (.long q), .second, .val (.ref st), .val (.long (cn - q)), .second, .val (.int k), .val (.int (0 : Int32)), .val (.int ((0 : Int32) + (1 : Int32))), .val (.int ((0 : Int32) + (1 : Int32)))] [(.ref a)])) rfl rfl (hb hby d5_215)
  refine own_go st25 ?_
  refine own_go (fun _ => XS.iload X25.here hx rfl (hb hby d5_218) rfl) ?_
  refine own_go (fun _ => XT.lloadN X25.here hx rfl (hb hby d5_220) rfl) ?_
  show own_Go p e below _ (T25.setTop (mkF m 221 #[.val (.ref a), .val (.long q), .second, .val (.ref st), .val (.long (cn - q)), .second, .val (.int k), .val (.int (0 : Int32)), .val (.int ((0 : Int32) + (1 : Int32))), .val (.int ((0 : Int32) + (1 : Int32)))] [(.long q), (.int ((0 : Int32) + (1 : Int32))), (.ref ff)]))
  obtain ⟨T26, h26, X26, e26, W26, A26, st26⟩ := own_stJ X25 hx hZ e25 f_A_24 (g := (mkF m 221 #[.val (.ref a), .val (.long q), .second, .val (.ref st), .val (.long (cn - q)), .second, .val (.int k), .val (.int (0 : Int32)), .val (.int ((0 : Int32) + (1 : Int32))), .val (.int ((0 : Int32) + (1 : Int32)))] [(.long q), (.int ((0 : Int32) + (1 : Int32))), (.ref ff)])) rfl rfl (hb hby d5_221) 1 (by decide) (by rw [lf]; decide)
  have N26 := Fr.snoc X26 N24 gf
  have o_E_26 := o_E_24.wr W26
  have o_from_26 := o_from_24.other W26 (Or.inl ne_a_ff)
  have o_lead_26 := o_lead_24.other W26 (Or.inl ne_a_ff)
  have o_member_26 := o_member_24.other W26 (Or.inl ne_a_ff)
  have o_start_26 := o_start_24.other W26 (Or.inl ne_a_ff)
  have o_end_26 := o_end_24.other W26 (Or.inl ne_a_ff)
  have st_E_26 := st_E_24.wr W26
  have l_A_26 := l_A_24.other W26 (Ne.symm ne_ff_ll)
  have k_A_26 := k_A_24.other W26 (Ne.symm ne_ff_kk)
  have K26 := K24.wr W26 (Or.inl (List.mem_of_getElem? (i := 1) rfl))
  refine own_go st26 ?_
  refine own_go (fun _ => XS.aloadN X26.here hx rfl (hb hby d5_222) rfl rfl) ?_
  obtain ⟨T27, X27, e27, st27⟩ := getF X26 hx hZ hown (host := "") (Or.inl (hw _ (List.mem_of_getElem? (i := 12) rfl))) Via.refl e26 o_lead_26 (g := (mkF m 223 #[.val (.ref a), .val (.long q), .second, .val (.ref st), .val (.long (cn - q)), .second, .val (.int k), .val (.int (0 : Int32)), .val (.int ((0 : Int32) + (1 : Int32))), .val (.int ((0 : Int32) + (1 : Int32)))] [(.ref a)])) rfl rfl (hb hby d5_223)
  refine own_go st27 ?_
  refine own_go (fun _ => XS.iload X27.here hx rfl (hb hby d5_226) rfl) ?_
  show own_Go p e below _ (T27.setTop (mkF m 228 #[.val (.ref a), .val (.long q), .second, .val (.ref st), .val (.long (cn - q)), .second, .val (.int k), .val (.int (0 : Int32)), .val (.int ((0 : Int32) + (1 : Int32))), .val (.int ((0 : Int32) + (1 : Int32)))] [(.int ((0 : Int32) + (1 : Int32))), (.ref ll)]))
  refine own_go (fun _ => XT.lload X27.here hx rfl (hb hby d5_228) rfl) ?_
  obtain ⟨T28, h28, X28, e28, W28, A28, st28⟩ := own_stJ X27 hx hZ e27 l_A_26 (g := (mkF m 230 #[.val (.ref a), .val (.long q), .second, .val (.ref st), .val (.long (cn - q)), .second, .val (.int k), .val (.int (0 : Int32)), .val (.int ((0 : Int32) + (1 : Int32))), .val (.int ((0 : Int32) + (1 : Int32)))] [(.long (cn - q)), (.int ((0 : Int32) + (1 : Int32))), (.ref ll)])) rfl rfl (hb hby d5_230) 1 (by decide) (by rw [lL]; decide)
  have N28 := Fr.snoc X28 N26 gl
  have o_E_28 := o_E_26.wr W28
  have o_from_28 := o_from_26.other W28 (Or.inl ne_a_ll)
  have o_lead_28 := o_lead_26.other W28 (Or.inl ne_a_ll)
  have o_member_28 := o_member_26.other W28 (Or.inl ne_a_ll)
  have o_start_28 := o_start_26.other W28 (Or.inl ne_a_ll)
  have o_end_28 := o_end_26.other W28 (Or.inl ne_a_ll)
  have st_E_28 := st_E_26.wr W28
  have f_A_28 := A26.other W28 ne_ff_ll
  have k_A_28 := k_A_26.other W28 (Ne.symm ne_ll_kk)
  have K28 := K26.wr W28 (Or.inl (List.mem_of_getElem? (i := 2) rfl))
  refine own_go st28 ?_
  refine own_go (fun _ => XS.aloadN X28.here hx rfl (hb hby d5_231) rfl rfl) ?_
  obtain ⟨T29, X29, e29, st29⟩ := getF X28 hx hZ hown (host := "") (Or.inl (hw _ (List.mem_of_getElem? (i := 15) rfl))) Via.refl e28 o_member_28 (g := (mkF m 232 #[.val (.ref a), .val (.long q), .second, .val (.ref st), .val (.long (cn - q)), .second, .val (.int k), .val (.int (0 : Int32)), .val (.int ((0 : Int32) + (1 : Int32))), .val (.int ((0 : Int32) + (1 : Int32)))] [(.ref a)])) rfl rfl (hb hby d5_232)
  refine own_go st29 ?_
  show own_Go p e below _ (T29.setTop (mkF m 235 #[.val (.ref a), .val (.long q), .second, .val (.ref st), .val (.long (cn - q)), .second, .val (.int k), .val (.int (0 : Int32)), .val (.int ((0 : Int32) + (1 : Int32))), .val (.int ((0 : Int32) + (1 : Int32)))] [(.ref kk)]))
  refine own_go (fun _ => XS.iload X29.here hx rfl (hb hby d5_235) rfl) ?_
  refine own_go (fun _ => XS.iload X29.here hx rfl (hb hby d5_237) rfl) ?_
  obtain ⟨T30, h30, X30, e30, W30, A30, st30⟩ := own_stI X29 hx hZ e29 k_A_28 (g := (mkF m 239 #[.val (.ref a), .val (.long q), .second, .val (.ref st), .val (.long (cn - q)), .second, .val (.int k), .val (.int (0 : Int32)), .val (.int ((0 : Int32) + (1 : Int32))), .val (.int ((0 : Int32) + (1 : Int32)))] [(.int k), (.int ((0 : Int32) + (1 : Int32))), (.ref kk)])) rfl rfl (hb hby d5_239) 1 (by decide) (by rw [lk]; decide)
  have N30 := Fr.snoc X30 N28 gk
  have o_E_30 := o_E_28.wr W30
  have o_from_30 := o_from_28.other W30 (Or.inl ne_a_kk)
  have o_lead_30 := o_lead_28.other W30 (Or.inl ne_a_kk)
  have o_member_30 := o_member_28.other W30 (Or.inl ne_a_kk)
  have o_start_30 := o_start_28.other W30 (Or.inl ne_a_kk)
  have o_end_30 := o_end_28.other W30 (Or.inl ne_a_kk)
  have st_E_30 := st_E_28.wr W30
  have f_A_30 := f_A_28.other W30 ne_ff_kk
  have l_A_30 := A28.other W30 ne_ll_kk
  have K30 := K28.wr W30 (Or.inl (List.mem_of_getElem? (i := 3) rfl))
  refine own_go st30 ?_
  exact own_vret X30 hx hlk hret (hb hby d5_240) (by decide) (by decide) (by rw [e30]; exact ⟨rfl, N30, K30, ⟨⟨o_E_30, f_A_30, l_A_30, A30⟩, ⟨o_from_30, o_lead_30, o_member_30, o_start_30, o_end_30⟩, ⟨ne_a_ff, ne_a_ll, ne_a_kk, ne_ff_ll, ne_ff_kk, ne_ll_kk⟩⟩⟩)
set_option maxRecDepth 65536 in
set_option maxHeartbeats 40000000 in
theorem own_add2_con (l : Launch) (Z : State) (a0 : Array Value) (hw : ∀ d ∈ tables_1, d.before a0 Z = true) (a ff ll kk : Addr) (fs ls ks : List Value) (st : Addr) (q cn f0 f1 : Int64) (k : Int32) (n0 : Nat) (h0 : Heap) (I0 : own_Ra Z h0 a ff ll kk fs ls ks 2) (lf : fs.length = 8) (lL : ls.length = 8) (lk : ks.length = 8) (S0 : own_Stamp Z h0 st cn k) (g0 : fs[0]? = some (.long f0)) (p0 : f0 < q) (g1 : fs[1]? = some (.long f1)) (p1 : f1 < q) (u : Int64) (hu : ls[1]? = some (.long u)) (hlt : u < cn - q) (ga : n0 ≤ a) (gf : n0 ≤ ff) (gl : n0 ≤ ll) (gk : n0 ≤ kk) (ws : List Jvm.Cond) :
    own_Con l Z (⟨"tidemark/protocol/Raises", "add", "(JLtidemark/model/Stamp;)V"⟩ : MethodName) prog_79_method_2_code 10 none ({ frames := 2, cells := 0, slots := 0, locals := 80 } : Room) #[(.ref a), (.long q), (.ref st)] h0 (fun v h L => v = none ∧ Fr n0 L ∧ Keep h0 h [a, ff, ll, kk] ∧ own_Ra Z h a ff ll kk (fs.set 2 (.long q)) (ls.set 2 (.long (cn - q))) (ks.set 2 (.int k)) 3) ws := by
  refine own_con (F := fun m => (mkF m 0 #[.val (.ref a), .val (.long q), .second, .val (.ref st), .unset, .unset, .unset, .unset, .unset, .unset] [])) (own_pn (by first | (simp [plainName, overriddenIn]; done) | decide +kernel)) (fun m => by first | (simp [entryFrame, mkF, argsToLocals, Value.category]; done) | rfl) ?_
  intro p e s m below meth c T X hx hby hml hZ hown hnm hret hlk eT
  show own_Go p e below (own_Out s (fun v h L => v = none ∧ Fr n0 L ∧ Keep h0 h [a, ff, ll, kk] ∧ own_Ra Z h a ff ll kk (fs.set 2 (.long q)) (ls.set 2 (.long (cn - q))) (ks.set 2 (.int k)) 3) ({ frames := 2, cells := 0, slots := 0, locals := 80 } : Room).cells ({ frames := 2, cells := 0, slots := 0, locals := 80 } : Room).slots) (T.setTop (mkF m 0 #[.val (.ref a), .val (.long q), .second, .val (.ref st), .unset, .unset, .unset, .unset, .unset, .unset] []))
  have I1 := I0
  obtain ⟨⟨o_E0, f_A0, l_A0, k_A0⟩, ⟨o_from0, o_lead0, o_member0, o_start0, o_end0⟩, ⟨ne_a_ff, ne_a_ll, ne_a_kk, ne_ff_ll, ne_ff_kk, ne_ll_kk⟩⟩ := I0
  have N0 := Fr.nil n0
  have K0 := Keep.refl h0 [a, ff, ll, kk]
  have st_E := S0.1
  refine own_go (fun _ => XS.aloadN X.here hx rfl (hb hby d5_0) rfl rfl) ?_
  obtain ⟨_, T1, L1, X1, ⟨rfl, eh1, rfl⟩, st1⟩ := own_callV X hx hZ hown (argsL := []) (rest := []) (own_counter_con l Z a0 hw st cn k h0 S0 []) eT st_E (hw _ (List.mem_of_getElem? (i := 38) rfl)) (hw _ (List.mem_of_getElem? (i := 39) rfl)) (hw _ (List.mem_of_getElem? (i := 41) rfl)) (hw _ (List.mem_of_getElem? (i := 40) rfl)) (hw _ (List.mem_of_getElem? (i := 19) rfl)) (hw _ (List.mem_of_getElem? (i := 42) rfl)) (notFace_of_selects (args := #[]) (mvT hZ (hw _ (List.mem_of_getElem? (i := 41) rfl)))) (by decide) (by decide +kernel : parseMethodDescriptor "()J" = some ⟨[], some .long⟩) rfl (g := (mkF m 1 #[.val (.ref a), .val (.long q), .second, .val (.ref st), .unset, .unset, .unset, .unset, .unset, .unset] [(.ref st)])) rfl (by rw [hml]; rfl) rfl 0 (by show 2 * 0 + _ ≤ _; exact Nat.le_of_eq rfl) (hb hby d5_1) (by decide) (by decide) (by decide) (by decide)
  rw [List.append_nil] at X1
  refine own_go st1 ?_
  refine own_go (fun _ => XT.lloadN X1.here hx rfl (hb hby d5_4) rfl) ?_
  refine own_go (fun _ => XT.lsub X1.here hx rfl (hb hby d5_5) rfl) ?_
  show own_Go p e below _ (T1.setTop (mkF m 6 #[.val (.ref a), .val (.long q), .second, .val (.ref st), .unset, .unset, .unset, .unset, .unset, .unset] [(.long (cn - q))]))
  refine own_go (fun _ => XT.lstore X1.here hx rfl (hb hby d5_6) rfl (l' := #[.val (.ref a), .val (.long q), .second, .val (.ref st), .val (.long (cn - q)), .second, .unset, .unset, .unset, .unset]) rfl) ?_
  refine own_go (fun _ => XS.aloadN X1.here hx rfl (hb hby d5_8) rfl rfl) ?_
  obtain ⟨_, T2, L2, X2, ⟨rfl, eh2, rfl⟩, st2⟩ := own_callV X1 hx hZ hown (argsL := []) (rest := []) (own_member_con l Z a0 hw st cn k h0 S0 []) eh1 st_E (hw _ (List.mem_of_getElem? (i := 43) rfl)) (hw _ (List.mem_of_getElem? (i := 44) rfl)) (hw _ (List.mem_of_getElem? (i := 46) rfl)) (hw _ (List.mem_of_getElem? (i := 45) rfl)) (hw _ (List.mem_of_getElem? (i := 19) rfl)) (hw _ (List.mem_of_getElem? (i := 47) rfl)) (notFace_of_selects (args := #[]) (mvT hZ (hw _ (List.mem_of_getElem? (i := 46) rfl)))) (by decide) (by decide +kernel : parseMethodDescriptor "()I" = some ⟨[], some .int⟩) rfl (g := (mkF m 9 #[.val (.ref a), .val (.long q), .second, .val (.ref st), .val (.long (cn - q)), .second, .unset, .unset, .unset, .unset] [(.ref st)])) rfl (by rw [hml]; rfl) rfl 0 (by show 2 * 0 + _ ≤ _; exact Nat.le_of_eq rfl) (hb hby d5_9) (by decide) (by decide) (by decide) (by decide)
  rw [List.append_nil] at X2
  refine own_go st2 ?_
  refine own_go (fun _ => XS.istore X2.here hx rfl (hb hby d5_12) rfl (l' := #[.val (.ref a), .val (.long q), .second, .val (.ref st), .val (.long (cn - q)), .second, .val (.int k), .unset, .unset, .unset]) rfl) ?_
  show own_Go p e below _ (T2.setTop (mkF m 14 #[.val (.ref a), .val (.long q), .second, .val (.ref st), .val (.long (cn - q)), .second, .val (.int k), .unset, .unset, .unset] []))
  refine own_go (fun _ => XS.aloadN X2.here hx rfl (hb hby d5_14) rfl rfl) ?_
  obtain ⟨T3, X3, e3, st3⟩ := getF X2 hx hZ hown (host := "") (Or.inl (hw _ (List.mem_of_getElem? (i := 48) rfl))) Via.refl eh2 o_end0 (g := (mkF m 15 #[.val (.ref a), .val (.long q), .second, .val (.ref st), .val (.long (cn - q)), .second, .val (.int k), .unset, .unset, .unset] [(.ref a)])) rfl rfl (hb hby d5_15)
  refine own_go st3 ?_
  refine own_go (fun _ => XS.aloadN X3.here hx rfl (hb hby d5_18) rfl rfl) ?_
  obtain ⟨T4, X4, e4, st4⟩ := getF X3 hx hZ hown (host := "") (Or.inl (hw _ (List.mem_of_getElem? (i := 10) rfl))) Via.refl e3 o_from0 (g := (mkF m 19 #[.val (.ref a), .val (.long q), .second, .val (.ref st), .val (.long (cn - q)), .second, .val (.int k), .unset, .unset, .unset] [(.ref a), (.int (2 : Int32))])) rfl rfl (hb hby d5_19)
  refine own_go st4 ?_
  show own_Go p e below _ (T4.setTop (mkF m 22 #[.val (.ref a), .val (.long q), .second, .val (.ref st), .val (.long (cn - q)), .second, .val (.int k), .unset, .unset, .unset] [(.ref ff), (.int (2 : Int32))]))
  refine own_go (own_len X4 hx hZ e4 f_A0 (g := (mkF m 22 #[.val (.ref a), .val (.long q), .second, .val (.ref st), .val (.long (cn - q)), .second, .val (.int k), .unset, .unset, .unset] [(.ref ff), (.int (2 : Int32))])) rfl rfl (hb hby d5_22) (8 : Int32) (by rw [lf]; decide)) ?_
  refine own_go (fun _ => XS.icmpYes X4.here hx rfl (pc0 := 23) (pc' := 30) rfl (hb hby d5_23) rfl (XT.ii_ne_t (by decide)) (by decide) (by decide)) ?_
  refine own_go (fun _ => XS.aloadN X4.here hx rfl (hb hby d5_30) rfl rfl) ?_
  refine own_go (fun _ => XT.lloadN X4.here hx rfl (hb hby d5_31) rfl) ?_
  show own_Go p e below _ (T4.setTop (mkF m 32 #[.val (.ref a), .val (.long q), .second, .val (.ref st), .val (.long (cn - q)), .second, .val (.int k), .unset, .unset, .unset] [(.long q), (.ref a)]))
  obtain ⟨_, T5, L5, X5, ⟨rfl, eh5, rfl⟩, st5⟩ := own_callP X4 hx hZ hown (argsL := [(.long q)]) (rest := []) (own_floor2_con l Z a0 hw a ff ll kk fs ls ks q f0 f1 h0 I1 g0 g1 []) e4 o_E0 (hw _ (List.mem_of_getElem? (i := 50) rfl)) (hw _ (List.mem_of_getElem? (i := 51) rfl)) (hw _ (List.mem_of_getElem? (i := 52) rfl)) (hw _ (List.mem_of_getElem? (i := 1) rfl)) (hw _ (List.mem_of_getElem? (i := 2) rfl)) (hw _ (List.mem_of_getElem? (i := 53) rfl)) (by decide) (by decide +kernel : parseMethodDescriptor "(J)I" = some ⟨[.long], some .int⟩) rfl (g := (mkF m 32 #[.val (.ref a), .val (.long q), .second, .val (.ref st), .val (.long (cn - q)), .second, .val (.int k), .unset, .unset, .unset] [(.long q), (.ref a)])) rfl (by rw [hml]; rfl) rfl 0 (by show 2 * 0 + _ ≤ _; exact Nat.le_of_eq rfl) (hb hby d5_32) (by decide) (by decide) (by decide) (by decide)
  rw [List.append_nil] at X5
  refine own_go st5 ?_
  have e0 : ¬ q < f0 := fun z => by rw [Int64.lt_iff_toInt_lt] at z p0; omega
  have e1 : ¬ q < f1 := fun z => by rw [Int64.lt_iff_toInt_lt] at z p1; omega
  have ef : (if q < f0 then (-1 : Int32) else (if q < f1 then 0 else 1)) = (1 : Int32) := by simp only [e0, e1, if_false]
  show own_Go p e below _ (T5.setTop (mkF m 35 #[.val (.ref a), .val (.long q), .second, .val (.ref st), .val (.long (cn - q)), .second, .val (.int k), .unset, .unset, .unset] [(.int (if q < f0 then (-1 : Int32) else (if q < f1 then 0 else 1)))]))
  rw [ef]
  refine own_go (fun _ => XS.istore X5.here hx rfl (hb hby d5_35) rfl (l' := #[.val (.ref a), .val (.long q), .second, .val (.ref st), .val (.long (cn - q)), .second, .val (.int k), .val (.int (1 : Int32)), .unset, .unset]) rfl) ?_
  refine own_go (fun _ => XS.iload X5.here hx rfl (hb hby d5_37) rfl) ?_
  refine own_go (fun _ => XS.aloadN X5.here hx rfl (hb hby d5_39) rfl rfl) ?_
  show own_Go p e below _ (T5.setTop (mkF m 40 #[.val (.ref a), .val (.long q), .second, .val (.ref st), .val (.long (cn - q)), .second, .val (.int k), .val (.int (1 : Int32)), .unset, .unset] [(.ref a), (.int (1 : Int32))]))
  obtain ⟨T6, X6, e6, st6⟩ := getF X5 hx hZ hown (host := "") (Or.inl (hw _ (List.mem_of_getElem? (i := 54) rfl))) Via.refl eh5 o_start0 (g := (mkF m 40 #[.val (.ref a), .val (.long q), .second, .val (.ref st), .val (.long (cn - q)), .second, .val (.int k), .val (.int (1 : Int32)), .unset, .unset] [(.ref a), (.int (1 : Int32))])) rfl rfl (hb hby d5_40)
  refine own_go st6 ?_
  refine own_go (fun _ => XS.icmpNo X6.here hx rfl (hb hby d5_43) rfl (XT.ii_lt_f (by decide))) ?_
  refine own_go (fun _ => XS.aloadN X6.here hx rfl (hb hby d5_46) rfl rfl) ?_
  refine own_go (fun _ => XS.iload X6.here hx rfl (hb hby d5_47) rfl) ?_
  show own_Go p e below _ (T6.setTop (mkF m 49 #[.val (.ref a), .val (.long q), .second, .val (.ref st), .val (.long (cn - q)), .second, .val (.int k), .val (.int (1 : Int32)), .unset, .unset] [(.int (1 : Int32)), (.ref a)]))
  refine own_go (fun _ => XT.lload X6.here hx rfl (hb hby d5_49) rfl) ?_
  refine own_go (fun _ => XS.iload X6.here hx rfl (hb hby d5_51) rfl) ?_
  obtain ⟨_, T7, L7, X7, ⟨rfl, eh7, rfl⟩, st7⟩ := own_callP X6 hx hZ hown (argsL := [(.int (1 : Int32)), (.long (cn - q)), (.int k)]) (rest := []) (own_compare_con l Z a0 hw a ff ll kk fs ls ks 2 (1 : Int32) k 1 u (cn - q) h0 I1 (by decide) hu hlt []) e6 o_E0 (hw _ (List.mem_of_getElem? (i := 61) rfl)) (hw _ (List.mem_of_getElem? (i := 62) rfl)) (hw _ (List.mem_of_getElem? (i := 63) rfl)) (hw _ (List.mem_of_getElem? (i := 1) rfl)) (hw _ (List.mem_of_getElem? (i := 2) rfl)) (hw _ (List.mem_of_getElem? (i := 64) rfl)) (by decide) (by decide +kernel : parseMethodDescriptor "(IJI)I" = some ⟨[.int, .long, .int], some .int⟩) rfl (g := (mkF m 53 #[.val (.ref a), .val (.long q), .second, .val (.ref st), .val (.long (cn - q)), .second, .val (.int k), .val (.int (1 : Int32)), .unset, .unset] [(.int k), (.long (cn - q)), (.int (1 : Int32)), (.ref a)])) rfl (by rw [hml]; rfl) rfl 0 (by show 2 * 0 + _ ≤ _; exact Nat.le_of_eq rfl) (hb hby d5_53) (by decide) (by decide) (by decide) (by decide)
  rw [List.append_nil] at X7
  refine own_go st7 ?_
  refine own_go (fun _ => XS.ifYes X7.here hx rfl (pc0 := 56) (pc' := 60) rfl (hb hby d5_56) rfl (XT.i0_lt_t (by decide)) (by decide) (by decide)) ?_
  show own_Go p e below _ (T7.setTop (mkF m 60 #[.val (.ref a), .val (.long q), .second, .val (.ref st), .val (.long (cn - q)), .second, .val (.int k), .val (.int (1 : Int32)), .unset, .unset] []))
  refine own_go (fun _ => XS.iload X7.here hx rfl (hb hby d5_60) rfl) ?_
  refine own_go (fun _ => XS.aloadN X7.here hx rfl (hb hby d5_62) rfl rfl) ?_
  obtain ⟨T8, X8, e8, st8⟩ := getF X7 hx hZ hown (host := "") (Or.inl (hw _ (List.mem_of_getElem? (i := 54) rfl))) Via.refl eh7 o_start0 (g := (mkF m 63 #[.val (.ref a), .val (.long q), .second, .val (.ref st), .val (.long (cn - q)), .second, .val (.int k), .val (.int (1 : Int32)), .unset, .unset] [(.ref a), (.int (1 : Int32))])) rfl rfl (hb hby d5_63)
  refine own_go st8 ?_
  refine own_go (fun _ => XS.icmpNo X8.here hx rfl (hb hby d5_66) rfl (XT.ii_lt_f (by decide))) ?_
  show own_Go p e below _ (T8.setTop (mkF m 69 #[.val (.ref a), .val (.long q), .second, .val (.ref st), .val (.long (cn - q)), .second, .val (.int k), .val (.int (1 : Int32)), .unset, .unset] []))
  refine own_go (fun _ => XS.aloadN X8.here hx rfl (hb hby d5_69) rfl rfl) ?_
  obtain ⟨T9, X9, e9, st9⟩ := getF X8 hx hZ hown (host := "") (Or.inl (hw _ (List.mem_of_getElem? (i := 10) rfl))) Via.refl e8 o_from0 (g := (mkF m 70 #[.val (.ref a), .val (.long q), .second, .val (.ref st), .val (.long (cn - q)), .second, .val (.int k), .val (.int (1 : Int32)), .unset, .unset] [(.ref a)])) rfl rfl (hb hby d5_70)
  refine own_go st9 ?_
  refine own_go (fun _ => XS.iload X9.here hx rfl (hb hby d5_73) rfl) ?_
  refine own_go (own_ldJ X9 hx hZ e9 f_A0 (g := (mkF m 75 #[.val (.ref a), .val (.long q), .second, .val (.ref st), .val (.long (cn - q)), .second, .val (.int k), .val (.int (1 : Int32)), .unset, .unset] [(.int (1 : Int32)), (.ref ff)])) rfl rfl (hb hby d5_75) 1 (by decide) (x := (.long f1)) g1) ?_
  show own_Go p e below _ (T9.setTop (mkF m 76 #[.val (.ref a), .val (.long q), .second, .val (.ref st), .val (.long (cn - q)), .second, .val (.int k), .val (.int (1 : Int32)), .unset, .unset] [(.long f1)]))
  refine own_go (fun _ => XT.lloadN X9.here hx rfl (hb hby d5_76) rfl) ?_
  refine own_go (fun _ => XT.lcmp X9.here hx rfl (hb hby d5_77) rfl) ?_
  refine own_go (fun _ => XS.ifYes X9.here hx rfl (pc0 := 78) (pc' := 86) rfl (hb hby d5_78) rfl (XT.ll_ne_t (fun z => by rw [z, Int64.lt_iff_toInt_lt] at p1; omega)) (by decide) (by decide)) ?_
  refine own_go (fun _ => XS.iload X9.here hx rfl (hb hby d5_86) rfl) ?_
  show own_Go p e below _ (T9.setTop (mkF m 88 #[.val (.ref a), .val (.long q), .second, .val (.ref st), .val (.long (cn - q)), .second, .val (.int k), .val (.int (1 : Int32)), .unset, .unset] [(.int (1 : Int32))]))
  refine own_go (fun _ => XS.iconst X9.here hx rfl (hb hby d5_88)) ?_
  refine own_go (fun _ => XS.iadd X9.here hx rfl (hb hby d5_89) rfl) ?_
  refine own_go (fun _ => XS.istore X9.here hx rfl (hb hby d5_90) rfl (l' := #[.val (.ref a), .val (.long q), .second, .val (.ref st), .val (.long (cn - q)), .second, .val (.int k), .val (.int (1 : Int32)), .val (.int ((1 : Int32) + (1 : Int32))), .unset]) rfl) ?_
  refine own_go (fun _ => XS.iload X9.here hx rfl (hb hby d5_92) rfl) ?_
  show own_Go p e below _ (T9.setTop (mkF m 94 #[.val (.ref a), .val (.long q), .second, .val (.ref st), .val (.long (cn - q)), .second, .val (.int k), .val (.int (1 : Int32)), .val (.int ((1 : Int32) + (1 : Int32))), .unset] [(.int (1 : Int32))]))
  refine own_go (fun _ => XS.iconst X9.here hx rfl (hb hby d5_94)) ?_
  refine own_go (fun _ => XS.iadd X9.here hx rfl (hb hby d5_95) rfl) ?_
  refine own_go (fun _ => XS.istore X9.here hx rfl (hb hby d5_96) rfl (l' := #[.val (.ref a), .val (.long q), .second, .val (.ref st), .val (.long (cn - q)), .second, .val (.int k), .val (.int (1 : Int32)), .val (.int ((1 : Int32) + (1 : Int32))), .val (.int ((1 : Int32) + (1 : Int32)))]) rfl) ?_
  refine own_go (fun _ => XS.iload X9.here hx rfl (hb hby d5_98) rfl) ?_
  show own_Go p e below _ (T9.setTop (mkF m 100 #[.val (.ref a), .val (.long q), .second, .val (.ref st), .val (.long (cn - q)), .second, .val (.int k), .val (.int (1 : Int32)), .val (.int ((1 : Int32) + (1 : Int32))), .val (.int ((1 : Int32) + (1 : Int32)))] [(.int ((1 : Int32) + (1 : Int32)))]))
  refine own_go (fun _ => XS.aloadN X9.here hx rfl (hb hby d5_100) rfl rfl) ?_
  obtain ⟨T10, X10, e10, st10⟩ := getF X9 hx hZ hown (host := "") (Or.inl (hw _ (List.mem_of_getElem? (i := 48) rfl))) Via.refl e9 o_end0 (g := (mkF m 101 #[.val (.ref a), .val (.long q), .second, .val (.ref st), .val (.long (cn - q)), .second, .val (.int k), .val (.int (1 : Int32)), .val (.int ((1 : Int32) + (1 : Int32))), .val (.int ((1 : Int32) + (1 : Int32)))] [(.ref a), (.int ((1 : Int32) + (1 : Int32)))])) rfl rfl (hb hby d5_101)
  refine own_go st10 ?_
  refine own_go (fun _ => XS.icmpYes X10.here hx rfl (pc0 := 104) (pc' := 126) rfl (hb hby d5_104) rfl (XT.ii_ge_t (by decide)) (by decide) (by decide)) ?_
  refine own_go (fun _ => XS.aloadN X10.here hx rfl (hb hby d5_126) rfl rfl) ?_
  show own_Go p e below _ (T10.setTop (mkF m 127 #[.val (.ref a), .val (.long q), .second, .val (.ref st), .val (.long (cn - q)), .second, .val (.int k), .val (.int (1 : Int32)), .val (.int ((1 : Int32) + (1 : Int32))), .val (.int ((1 : Int32) + (1 : Int32)))] [(.ref a)]))
  obtain ⟨T11, X11, e11, st11⟩ := getF X10 hx hZ hown (host := "") (Or.inl (hw _ (List.mem_of_getElem? (i := 10) rfl))) Via.refl e10 o_from0 (g := (mkF m 127 #[.val (.ref a), .val (.long q), .second, .val (.ref st), .val (.long (cn - q)), .second, .val (.int k), .val (.int (1 : Int32)), .val (.int ((1 : Int32) + (1 : Int32))), .val (.int ((1 : Int32) + (1 : Int32)))] [(.ref a)])) rfl rfl (hb hby d5_127)
  refine own_go st11 ?_
  refine own_go (fun _ => XS.iload X11.here hx rfl (hb hby d5_130) rfl) ?_
  refine own_go (fun _ => XS.aloadN X11.here hx rfl (hb hby d5_132) rfl rfl) ?_
  obtain ⟨T12, X12, e12, st12⟩ := getF X11 hx hZ hown (host := "") (Or.inl (hw _ (List.mem_of_getElem? (i := 10) rfl))) Via.refl e11 o_from0 (g := (mkF m 133 #[.val (.ref a), .val (.long q), .second, .val (.ref st), .val (.long (cn - q)), .second, .val (.int k), .val (.int (1 : Int32)), .val (.int ((1 : Int32) + (1 : Int32))), .val (.int ((1 : Int32) + (1 : Int32)))] [(.ref a), (.int ((1 : Int32) + (1 : Int32))), (.ref ff)])) rfl rfl (hb hby d5_133)
  refine own_go st12 ?_
  show own_Go p e below _ (T12.setTop (mkF m 136 #[.val (.ref a), .val (.long q), .second, .val (.ref st), .val (.long (cn - q)), .second, .val (.int k), .val (.int (1 : Int32)), .val (.int ((1 : Int32) + (1 : Int32))), .val (.int ((1 : Int32) + (1 : Int32)))] [(.ref ff), (.int ((1 : Int32) + (1 : Int32))), (.ref ff)]))
  refine own_go (fun _ => XS.iload X12.here hx rfl (hb hby d5_136) rfl) ?_
  refine own_go (fun _ => XS.iconst X12.here hx rfl (hb hby d5_138)) ?_
  refine own_go (fun _ => XS.iadd X12.here hx rfl (hb hby d5_139) rfl) ?_
  refine own_go (fun _ => XS.aloadN X12.here hx rfl (hb hby d5_140) rfl rfl) ?_
  show own_Go p e below _ (T12.setTop (mkF m 141 #[.val (.ref a), .val (.long q), .second, .val (.ref st), .val (.long (cn - q)), .second, .val (.int k), .val (.int (1 : Int32)), .val (.int ((1 : Int32) + (1 : Int32))), .val (.int ((1 : Int32) + (1 : Int32)))] [(.ref a), (.int (((1 : Int32) + (1 : Int32)) + (1 : Int32))), (.ref ff), (.int ((1 : Int32) + (1 : Int32))), (.ref ff)]))
  obtain ⟨T13, X13, e13, st13⟩ := getF X12 hx hZ hown (host := "") (Or.inl (hw _ (List.mem_of_getElem? (i := 48) rfl))) Via.refl e12 o_end0 (g := (mkF m 141 #[.val (.ref a), .val (.long q), .second, .val (.ref st), .val (.long (cn - q)), .second, .val (.int k), .val (.int (1 : Int32)), .val (.int ((1 : Int32) + (1 : Int32))), .val (.int ((1 : Int32) + (1 : Int32)))] [(.ref a), (.int (((1 : Int32) + (1 : Int32)) + (1 : Int32))), (.ref ff), (.int ((1 : Int32) + (1 : Int32))), (.ref ff)])) rfl rfl (hb hby d5_141)
  refine own_go st13 ?_
  refine own_go (fun _ => XS.iload X13.here hx rfl (hb hby d5_144) rfl) ?_
  refine own_go (fun _ => XS.isub X13.here hx rfl (hb hby d5_146) rfl) ?_
  obtain ⟨T14, h14, L14, X14, e14, N14, Kc14, A14, st14⟩ := own_copy X13 hx hZ hown (hw _ (List.mem_of_getElem? (i := 56) rfl)) (hw _ (List.mem_of_getElem? (i := 59) rfl)) (hw _ (List.mem_of_getElem? (i := 57) rfl)) (hw _ (List.mem_of_getElem? (i := 58) rfl)) e13 f_A0 f_A0 rfl (g := (mkF m 147 #[.val (.ref a), .val (.long q), .second, .val (.ref st), .val (.long (cn - q)), .second, .val (.int k), .val (.int (1 : Int32)), .val (.int ((1 : Int32) + (1 : Int32))), .val (.int ((1 : Int32) + (1 : Int32)))] [(.int ((2 : Int32) - ((1 : Int32) + (1 : Int32)))), (.int (((1 : Int32) + (1 : Int32)) + (1 : Int32))), (.ref ff), (.int ((1 : Int32) + (1 : Int32))), (.ref ff)])) rfl (by rw [hml]; rfl) rfl (hb hby d5_147) 2 3 0 (by decide) (by decide) (by decide) (by rw [lf]; decide) (by rw [lf]; decide) N0 gf 0 (by show 2 * 0 + _ ≤ _; exact Nat.le_of_eq rfl) (by decide) (by decide)
  have o_E_14 := o_E0.keep Kc14
  have o_from_14 := o_from0.keep Kc14 (ninS ne_a_ff nin0)
  have o_lead_14 := o_lead0.keep Kc14 (ninS ne_a_ff nin0)
  have o_member_14 := o_member0.keep Kc14 (ninS ne_a_ff nin0)
  have o_start_14 := o_start0.keep Kc14 (ninS ne_a_ff nin0)
  have o_end_14 := o_end0.keep Kc14 (ninS ne_a_ff nin0)
  have l_A_14 := l_A0.keep Kc14 (ninS (Ne.symm ne_ff_ll) nin0)
  have k_A_14 := k_A0.keep Kc14 (ninS (Ne.symm ne_ff_kk) nin0)
  have st_E_14 := st_E.keep Kc14
  have K14 := K0.trans Kc14 (allS (Or.inl (List.mem_of_getElem? (i := 1) rfl)) all0)
  refine own_go st14 ?_
  show own_Go p e below _ (T14.setTop (mkF m 150 #[.val (.ref a), .val (.long q), .second, .val (.ref st), .val (.long (cn - q)), .second, .val (.int k), .val (.int (1 : Int32)), .val (.int ((1 : Int32) + (1 : Int32))), .val (.int ((1 : Int32) + (1 : Int32)))] []))
  rw [own_cut0] at A14
  refine own_go (fun _ => XS.aloadN X14.here hx rfl (hb hby d5_150) rfl rfl) ?_
  obtain ⟨T15, X15, e15, st15⟩ := getF X14 hx hZ hown (host := "") (Or.inl (hw _ (List.mem_of_getElem? (i := 12) rfl))) Via.refl e14 o_lead_14 (g := (mkF m 151 #[.val (.ref a), .val (.long q), .second, .val (.ref st), .val (.long (cn - q)), .second, .val (.int k), .val (.int (1 : Int32)), .val (.int ((1 : Int32) + (1 : Int32))), .val (.int ((1 : Int32) + (1 : Int32)))] [(.ref a)])) rfl rfl (hb hby d5_151)
  refine own_go st15 ?_
  refine own_go (fun _ => XS.iload X15.here hx rfl (hb hby d5_154) rfl) ?_
  refine own_go (fun _ => XS.aloadN X15.here hx rfl (hb hby d5_156) rfl rfl) ?_
  show own_Go p e below _ (T15.setTop (mkF m 157 #[.val (.ref a), .val (.long q), .second, .val (.ref st), .val (.long (cn - q)), .second, .val (.int k), .val (.int (1 : Int32)), .val (.int ((1 : Int32) + (1 : Int32))), .val (.int ((1 : Int32) + (1 : Int32)))] [(.ref a), (.int ((1 : Int32) + (1 : Int32))), (.ref ll)]))
  obtain ⟨T16, X16, e16, st16⟩ := getF X15 hx hZ hown (host := "") (Or.inl (hw _ (List.mem_of_getElem? (i := 12) rfl))) Via.refl e15 o_lead_14 (g := (mkF m 157 #[.val (.ref a), .val (.long q), .second, .val (.ref st), .val (.long (cn - q)), .second, .val (.int k), .val (.int (1 : Int32)), .val (.int ((1 : Int32) + (1 : Int32))), .val (.int ((1 : Int32) + (1 : Int32)))] [(.ref a), (.int ((1 : Int32) + (1 : Int32))), (.ref ll)])) rfl rfl (hb hby d5_157)
  refine own_go st16 ?_
  refine own_go (fun _ => XS.iload X16.here hx rfl (hb hby d5_160) rfl) ?_
  refine own_go (fun _ => XS.iconst X16.here hx rfl (hb hby d5_162)) ?_
  refine own_go (fun _ => XS.iadd X16.here hx rfl (hb hby d5_163) rfl) ?_
  show own_Go p e below _ (T16.setTop (mkF m 164 #[.val (.ref a), .val (.long q), .second, .val (.ref st), .val (.long (cn - q)), .second, .val (.int k), .val (.int (1 : Int32)), .val (.int ((1 : Int32) + (1 : Int32))), .val (.int ((1 : Int32) + (1 : Int32)))] [(.int (((1 : Int32) + (1 : Int32)) + (1 : Int32))), (.ref ll), (.int ((1 : Int32) + (1 : Int32))), (.ref ll)]))
  refine own_go (fun _ => XS.aloadN X16.here hx rfl (hb hby d5_164) rfl rfl) ?_
  obtain ⟨T17, X17, e17, st17⟩ := getF X16 hx hZ hown (host := "") (Or.inl (hw _ (List.mem_of_getElem? (i := 48) rfl))) Via.refl e16 o_end_14 (g := (mkF m 165 #[.val (.ref a), .val (.long q), .second, .val (.ref st), .val (.long (cn - q)), .second, .val (.int k), .val (.int (1 : Int32)), .val (.int ((1 : Int32) + (1 : Int32))), .val (.int ((1 : Int32) + (1 : Int32)))] [(.ref a), (.int (((1 : Int32) + (1 : Int32)) + (1 : Int32))), (.ref ll), (.int ((1 : Int32) + (1 : Int32))), (.ref ll)])) rfl rfl (hb hby d5_165)
  refine own_go st17 ?_
  refine own_go (fun _ => XS.iload X17.here hx rfl (hb hby d5_168) rfl) ?_
  refine own_go (fun _ => XS.isub X17.here hx rfl (hb hby d5_170) rfl) ?_
  show own_Go p e below _ (T17.setTop (mkF m 171 #[.val (.ref a), .val (.long q), .second, .val (.ref st), .val (.long (cn - q)), .second, .val (.int k), .val (.int (1 : Int32)), .val (.int ((1 : Int32) + (1 : Int32))), .val (.int ((1 : Int32) + (1 : Int32)))] [(.int ((2 : Int32) - ((1 : Int32) + (1 : Int32)))), (.int (((1 : Int32) + (1 : Int32)) + (1 : Int32))), (.ref ll), (.int ((1 : Int32) + (1 : Int32))), (.ref ll)]))
  obtain ⟨T18, h18, L18, X18, e18, N18, Kc18, A18, st18⟩ := own_copy X17 hx hZ hown (hw _ (List.mem_of_getElem? (i := 56) rfl)) (hw _ (List.mem_of_getElem? (i := 59) rfl)) (hw _ (List.mem_of_getElem? (i := 57) rfl)) (hw _ (List.mem_of_getElem? (i := 58) rfl)) e17 l_A_14 l_A_14 rfl (g := (mkF m 171 #[.val (.ref a), .val (.long q), .second, .val (.ref st), .val (.long (cn - q)), .second, .val (.int k), .val (.int (1 : Int32)), .val (.int ((1 : Int32) + (1 : Int32))), .val (.int ((1 : Int32) + (1 : Int32)))] [(.int ((2 : Int32) - ((1 : Int32) + (1 : Int32)))), (.int (((1 : Int32) + (1 : Int32)) + (1 : Int32))), (.ref ll), (.int ((1 : Int32) + (1 : Int32))), (.ref ll)])) rfl (by rw [hml]; rfl) rfl (hb hby d5_171) 2 3 0 (by decide) (by decide) (by decide) (by rw [lL]; decide) (by rw [lL]; decide) N14 gl 0 (by show 2 * 0 + _ ≤ _; exact Nat.le_of_eq rfl) (by decide) (by decide)
  have o_E_18 := o_E_14.keep Kc18
  have o_from_18 := o_from_14.keep Kc18 (ninS ne_a_ll nin0)
  have o_lead_18 := o_lead_14.keep Kc18 (ninS ne_a_ll nin0)
  have o_member_18 := o_member_14.keep Kc18 (ninS ne_a_ll nin0)
  have o_start_18 := o_start_14.keep Kc18 (ninS ne_a_ll nin0)
  have o_end_18 := o_end_14.keep Kc18 (ninS ne_a_ll nin0)
  have k_A_18 := k_A_14.keep Kc18 (ninS (Ne.symm ne_ll_kk) nin0)
  have st_E_18 := st_E_14.keep Kc18
  have f_A_18 := A14.keep Kc18 (ninS ne_ff_ll nin0)
  have K18 := K14.trans Kc18 (allS (Or.inl (List.mem_of_getElem? (i := 2) rfl)) all0)
  refine own_go st18 ?_
  rw [own_cut0] at A18
  refine own_go (fun _ => XS.aloadN X18.here hx rfl (hb hby d5_174) rfl rfl) ?_
  obtain ⟨T19, X19, e19, st19⟩ := getF X18 hx hZ hown (host := "") (Or.inl (hw _ (List.mem_of_getElem? (i := 15) rfl))) Via.refl e18 o_member_18 (g := (mkF m 175 #[.val (.ref a), .val (.long q), .second, .val (.ref st), .val (.long (cn - q)), .second, .val (.int k), .val (.int (1 : Int32)), .val (.int ((1 : Int32) + (1 : Int32))), .val (.int ((1 : Int32) + (1 : Int32)))] [(.ref a)])) rfl rfl (hb hby d5_175)
  refine own_go st19 ?_
  refine own_go (fun _ => XS.iload X19.here hx rfl (hb hby d5_178) rfl) ?_
  show own_Go p e below _ (T19.setTop (mkF m 180 #[.val (.ref a), .val (.long q), .second, .val (.ref st), .val (.long (cn - q)), .second, .val (.int k), .val (.int (1 : Int32)), .val (.int ((1 : Int32) + (1 : Int32))), .val (.int ((1 : Int32) + (1 : Int32)))] [(.int ((1 : Int32) + (1 : Int32))), (.ref kk)]))
  refine own_go (fun _ => XS.aloadN X19.here hx rfl (hb hby d5_180) rfl rfl) ?_
  obtain ⟨T20, X20, e20, st20⟩ := getF X19 hx hZ hown (host := "") (Or.inl (hw _ (List.mem_of_getElem? (i := 15) rfl))) Via.refl e19 o_member_18 (g := (mkF m 181 #[.val (.ref a), .val (.long q), .second, .val (.ref st), .val (.long (cn - q)), .second, .val (.int k), .val (.int (1 : Int32)), .val (.int ((1 : Int32) + (1 : Int32))), .val (.int ((1 : Int32) + (1 : Int32)))] [(.ref a), (.int ((1 : Int32) + (1 : Int32))), (.ref kk)])) rfl rfl (hb hby d5_181)
  refine own_go st20 ?_
  refine own_go (fun _ => XS.iload X20.here hx rfl (hb hby d5_184) rfl) ?_
  refine own_go (fun _ => XS.iconst X20.here hx rfl (hb hby d5_186)) ?_
  show own_Go p e below _ (T20.setTop (mkF m 187 #[.val (.ref a), .val (.long q), .second, .val (.ref st), .val (.long (cn - q)), .second, .val (.int k), .val (.int (1 : Int32)), .val (.int ((1 : Int32) + (1 : Int32))), .val (.int ((1 : Int32) + (1 : Int32)))] [(.int (1 : Int32)), (.int ((1 : Int32) + (1 : Int32))), (.ref kk), (.int ((1 : Int32) + (1 : Int32))), (.ref kk)]))
  refine own_go (fun _ => XS.iadd X20.here hx rfl (hb hby d5_187) rfl) ?_
  refine own_go (fun _ => XS.aloadN X20.here hx rfl (hb hby d5_188) rfl rfl) ?_
  obtain ⟨T21, X21, e21, st21⟩ := getF X20 hx hZ hown (host := "") (Or.inl (hw _ (List.mem_of_getElem? (i := 48) rfl))) Via.refl e20 o_end_18 (g := (mkF m 189 #[.val (.ref a), .val (.long q), .second, .val (.ref st), .val (.long (cn - q)), .second, .val (.int k), .val (.int (1 : Int32)), .val (.int ((1 : Int32) + (1 : Int32))), .val (.int ((1 : Int32) + (1 : Int32)))] [(.ref a), (.int (((1 : Int32) + (1 : Int32)) + (1 : Int32))), (.ref kk), (.int ((1 : Int32) + (1 : Int32))), (.ref kk)])) rfl rfl (hb hby d5_189)
  refine own_go st21 ?_
  refine own_go (fun _ => XS.iload X21.here hx rfl (hb hby d5_192) rfl) ?_
  show own_Go p e below _ (T21.setTop (mkF m 194 #[.val (.ref a), .val (.long q), .second, .val (.ref st), .val (.long (cn - q)), .second, .val (.int k), .val (.int (1 : Int32)), .val (.int ((1 : Int32) + (1 : Int32))), .val (.int ((1 : Int32) + (1 : Int32)))] [(.int ((1 : Int32) + (1 : Int32))), (.int (2 : Int32)), (.int (((1 : Int32) + (1 : Int32)) + (1 : Int32))), (.ref kk), (.int ((1 : Int32) + (1 : Int32))), (.ref kk)]))
  refine own_go (fun _ => XS.isub X21.here hx rfl (hb hby d5_194) rfl) ?_
  obtain ⟨T22, h22, L22, X22, e22, N22, Kc22, A22, st22⟩ := own_copy X21 hx hZ hown (hw _ (List.mem_of_getElem? (i := 56) rfl)) (hw _ (List.mem_of_getElem? (i := 59) rfl)) (hw _ (List.mem_of_getElem? (i := 57) rfl)) (hw _ (List.mem_of_getElem? (i := 58) rfl)) e21 k_A_18 k_A_18 rfl (g := (mkF m 195 #[.val (.ref a), .val (.long q), .second, .val (.ref st), .val (.long (cn - q)), .second, .val (.int k), .val (.int (1 : Int32)), .val (.int ((1 : Int32) + (1 : Int32))), .val (.int ((1 : Int32) + (1 : Int32)))] [(.int ((2 : Int32) - ((1 : Int32) + (1 : Int32)))), (.int (((1 : Int32) + (1 : Int32)) + (1 : Int32))), (.ref kk), (.int ((1 : Int32) + (1 : Int32))), (.ref kk)])) rfl (by rw [hml]; rfl) rfl (hb hby d5_195) 2 3 0 (by decide) (by decide) (by decide) (by rw [lk]; decide) (by rw [lk]; decide) N18 gk 0 (by show 2 * 0 + _ ≤ _; exact Nat.le_of_eq rfl) (by decide) (by decide)
  have o_E_22 := o_E_18.keep Kc22
  have o_from_22 := o_from_18.keep Kc22 (ninS ne_a_kk nin0)
  have o_lead_22 := o_lead_18.keep Kc22 (ninS ne_a_kk nin0)
  have o_member_22 := o_member_18.keep Kc22 (ninS ne_a_kk nin0)
  have o_start_22 := o_start_18.keep Kc22 (ninS ne_a_kk nin0)
  have o_end_22 := o_end_18.keep Kc22 (ninS ne_a_kk nin0)
  have st_E_22 := st_E_18.keep Kc22
  have f_A_22 := f_A_18.keep Kc22 (ninS ne_ff_kk nin0)
  have l_A_22 := A18.keep Kc22 (ninS ne_ll_kk nin0)
  have K22 := K18.trans Kc22 (allS (Or.inl (List.mem_of_getElem? (i := 3) rfl)) all0)
  refine own_go st22 ?_
  rw [own_cut0] at A22
  refine own_go (fun _ => XS.aloadN X22.here hx rfl (hb hby d5_198) rfl rfl) ?_
  refine own_go (fun _ => XS.iload X22.here hx rfl (hb hby d5_199) rfl) ?_
  show own_Go p e below _ (T22.setTop (mkF m 201 #[.val (.ref a), .val (.long q), .second, .val (.ref st), .val (.long (cn - q)), .second, .val (.int k), .val (.int (1 : Int32)), .val (.int ((1 : Int32) + (1 : Int32))), .val (.int ((1 : Int32) + (1 : Int32)))] [(.int ((1 : Int32) + (1 : Int32))), (.ref a)]))
  refine own_go (fun _ => XS.iconst X22.here hx rfl (hb hby d5_201)) ?_
  refine own_go (fun _ => XS.iadd X22.here hx rfl (hb hby d5_202) rfl) ?_
  refine own_go (fun _ => XS.aloadN X22.here hx rfl (hb hby d5_203) rfl rfl) ?_
  obtain ⟨T23, X23, e23, st23⟩ := getF X22 hx hZ hown (host := "") (Or.inl (hw _ (List.mem_of_getElem? (i := 48) rfl))) Via.refl e22 o_end_22 (g := (mkF m 204 #[.val (.ref a), .val (.long q), .second, .val (.ref st), .val (.long (cn - q)), .second, .val (.int k), .val (.int (1 : Int32)), .val (.int ((1 : Int32) + (1 : Int32))), .val (.int ((1 : Int32) + (1 : Int32)))] [(.ref a), (.int (((1 : Int32) + (1 : Int32)) + (1 : Int32))), (.ref a)])) rfl rfl (hb hby d5_204)
  refine own_go st23 ?_
  show own_Go p e below _ (T23.setTop (mkF m 207 #[.val (.ref a), .val (.long q), .second, .val (.ref st), .val (.long (cn - q)), .second, .val (.int k), .val (.int (1 : Int32)), .val (.int ((1 : Int32) + (1 : Int32))), .val (.int ((1 : Int32) + (1 : Int32)))] [(.int (2 : Int32)), (.int (((1 : Int32) + (1 : Int32)) + (1 : Int32))), (.ref a)]))
  refine own_go (fun _ => XS.iadd X23.here hx rfl (hb hby d5_207) rfl) ?_
  refine own_go (fun _ => XS.iload X23.here hx rfl (hb hby d5_208) rfl) ?_
  refine own_go (fun _ => XS.isub X23.here hx rfl (hb hby d5_210) rfl) ?_
  obtain ⟨T24, h24, X24, e24, W24, st24⟩ := putF X23 hx hZ hown (host := "") (Or.inl (hw _ (List.mem_of_getElem? (i := 48) rfl))) Via.refl e23 o_end_22 o_E_22 (Or.inl (hw _ (List.mem_of_getElem? (i := 49) rfl))) (hw _ (List.mem_of_getElem? (i := 1) rfl)) (ty := .int) (by decide) rfl rfl (g := (mkF m 211 #[.val (.ref a), .val (.long q), .second, .val (.ref st), .val (.long (cn - q)), .second, .val (.int k), .val (.int (1 : Int32)), .val (.int ((1 : Int32) + (1 : Int32))), .val (.int ((1 : Int32) + (1 : Int32)))] [(.int (((((1 : Int32) + (1 : Int32)) + (1 : Int32)) + (2 : Int32)) - ((1 : Int32) + (1 : Int32)))), (.ref a)])) rfl rfl (hb hby d5_211)
  have N24 := Fr.snoc X24 N22 ga
  have o_E_24 := o_E_22.wr W24
  have o_from_24 := o_from_22.other W24 (Or.inr (slot_ne (t := (.array .long)) (t' := .int) (Or.inl (hw _ (List.mem_of_getElem? (i := 11) rfl))) (Or.inl (hw _ (List.mem_of_getElem? (i := 49) rfl))) (by decide) (by decide) (by decide)))
  have o_lead_24 := o_lead_22.other W24 (Or.inr (slot_ne (t := (.array .long)) (t' := .int) (Or.inl (hw _ (List.mem_of_getElem? (i := 13) rfl))) (Or.inl (hw _ (List.mem_of_getElem? (i := 49) rfl))) (by decide) (by decide) (by decide)))
  have o_member_24 := o_member_22.other W24 (Or.inr (slot_ne (t := (.array .int)) (t' := .int) (Or.inl (hw _ (List.mem_of_getElem? (i := 16) rfl))) (Or.inl (hw _ (List.mem_of_getElem? (i := 49) rfl))) (by decide) (by decide) (by decide)))
  have o_start_24 := o_start_22.other W24 (Or.inr (slot_ne (t := .int) (t' := .int) (Or.inl (hw _ (List.mem_of_getElem? (i := 55) rfl))) (Or.inl (hw _ (List.mem_of_getElem? (i := 49) rfl))) (by decide) (by decide) (by decide)))
  have o_end_24 := o_end_22.same W24
  have st_E_24 := st_E_22.wr W24
  have f_A_24 := f_A_22.other W24 (Ne.symm ne_a_ff)
  have l_A_24 := l_A_22.other W24 (Ne.symm ne_a_ll)
  have k_A_24 := A22.other W24 (Ne.symm ne_a_kk)
  have K24 := K22.wr W24 (Or.inl (List.mem_of_getElem? (i := 0) rfl))
  refine own_go st24 ?_
  show own_Go p e below _ (T24.setTop (mkF m 214 #[.val (.ref a), .val (.long q), .second, .val (.ref st), .val (.long (cn - q)), .second, .val (.int k), .val (.int (1 : Int32)), .val (.int ((1 : Int32) + (1 : Int32))), .val (.int ((1 : Int32) + (1 : Int32)))] []))
  refine own_go (fun _ => XS.aloadN X24.here hx rfl (hb hby d5_214) rfl rfl) ?_
  obtain ⟨T25, X25, e25, st25⟩ := getF X24 hx hZ hown (host := "") (Or.inl (hw _ (List.mem_of_getElem? (i := 10) rfl))) Via.refl e24 o_from_24 (g := (mkF m 215 #[.val (.ref a), .val (.long q), .second, .val (.ref st), .val (.long (cn - q)), .second, .val (.int k), .val (.int (1 : Int32)), .val (.int ((1 : Int32) + (1 : Int32))), .val (.int ((1 : Int32) + (1 : Int32)))] [(.ref a)])) rfl rfl (hb hby d5_215)
  refine own_go st25 ?_
  refine own_go (fun _ => XS.iload X25.here hx rfl (hb hby d5_218) rfl) ?_
  refine own_go (fun _ => XT.lloadN X25.here hx rfl (hb hby d5_220) rfl) ?_
  show own_Go p e below _ (T25.setTop (mkF m 221 #[.val (.ref a), .val (.long q), .second, .val (.ref st), .val (.long (cn - q)), .second, .val (.int k), .val (.int (1 : Int32)), .val (.int ((1 : Int32) + (1 : Int32))), .val (.int ((1 : Int32) + (1 : Int32)))] [(.long q), (.int ((1 : Int32) + (1 : Int32))), (.ref ff)]))
  obtain ⟨T26, h26, X26, e26, W26, A26, st26⟩ := own_stJ X25 hx hZ e25 f_A_24 (g := (mkF m 221 #[.val (.ref a), .val (.long q), .second, .val (.ref st), .val (.long (cn - q)), .second, .val (.int k), .val (.int (1 : Int32)), .val (.int ((1 : Int32) + (1 : Int32))), .val (.int ((1 : Int32) + (1 : Int32)))] [(.long q), (.int ((1 : Int32) + (1 : Int32))), (.ref ff)])) rfl rfl (hb hby d5_221) 2 (by decide) (by rw [lf]; decide)
  have N26 := Fr.snoc X26 N24 gf
  have o_E_26 := o_E_24.wr W26
  have o_from_26 := o_from_24.other W26 (Or.inl ne_a_ff)
  have o_lead_26 := o_lead_24.other W26 (Or.inl ne_a_ff)
  have o_member_26 := o_member_24.other W26 (Or.inl ne_a_ff)
  have o_start_26 := o_start_24.other W26 (Or.inl ne_a_ff)
  have o_end_26 := o_end_24.other W26 (Or.inl ne_a_ff)
  have st_E_26 := st_E_24.wr W26
  have l_A_26 := l_A_24.other W26 (Ne.symm ne_ff_ll)
  have k_A_26 := k_A_24.other W26 (Ne.symm ne_ff_kk)
  have K26 := K24.wr W26 (Or.inl (List.mem_of_getElem? (i := 1) rfl))
  refine own_go st26 ?_
  refine own_go (fun _ => XS.aloadN X26.here hx rfl (hb hby d5_222) rfl rfl) ?_
  obtain ⟨T27, X27, e27, st27⟩ := getF X26 hx hZ hown (host := "") (Or.inl (hw _ (List.mem_of_getElem? (i := 12) rfl))) Via.refl e26 o_lead_26 (g := (mkF m 223 #[.val (.ref a), .val (.long q), .second, .val (.ref st), .val (.long (cn - q)), .second, .val (.int k), .val (.int (1 : Int32)), .val (.int ((1 : Int32) + (1 : Int32))), .val (.int ((1 : Int32) + (1 : Int32)))] [(.ref a)])) rfl rfl (hb hby d5_223)
  refine own_go st27 ?_
  refine own_go (fun _ => XS.iload X27.here hx rfl (hb hby d5_226) rfl) ?_
  show own_Go p e below _ (T27.setTop (mkF m 228 #[.val (.ref a), .val (.long q), .second, .val (.ref st), .val (.long (cn - q)), .second, .val (.int k), .val (.int (1 : Int32)), .val (.int ((1 : Int32) + (1 : Int32))), .val (.int ((1 : Int32) + (1 : Int32)))] [(.int ((1 : Int32) + (1 : Int32))), (.ref ll)]))
  refine own_go (fun _ => XT.lload X27.here hx rfl (hb hby d5_228) rfl) ?_
  obtain ⟨T28, h28, X28, e28, W28, A28, st28⟩ := own_stJ X27 hx hZ e27 l_A_26 (g := (mkF m 230 #[.val (.ref a), .val (.long q), .second, .val (.ref st), .val (.long (cn - q)), .second, .val (.int k), .val (.int (1 : Int32)), .val (.int ((1 : Int32) + (1 : Int32))), .val (.int ((1 : Int32) + (1 : Int32)))] [(.long (cn - q)), (.int ((1 : Int32) + (1 : Int32))), (.ref ll)])) rfl rfl (hb hby d5_230) 2 (by decide) (by rw [lL]; decide)
  have N28 := Fr.snoc X28 N26 gl
  have o_E_28 := o_E_26.wr W28
  have o_from_28 := o_from_26.other W28 (Or.inl ne_a_ll)
  have o_lead_28 := o_lead_26.other W28 (Or.inl ne_a_ll)
  have o_member_28 := o_member_26.other W28 (Or.inl ne_a_ll)
  have o_start_28 := o_start_26.other W28 (Or.inl ne_a_ll)
  have o_end_28 := o_end_26.other W28 (Or.inl ne_a_ll)
  have st_E_28 := st_E_26.wr W28
  have f_A_28 := A26.other W28 ne_ff_ll
  have k_A_28 := k_A_26.other W28 (Ne.symm ne_ll_kk)
  have K28 := K26.wr W28 (Or.inl (List.mem_of_getElem? (i := 2) rfl))
  refine own_go st28 ?_
  refine own_go (fun _ => XS.aloadN X28.here hx rfl (hb hby d5_231) rfl rfl) ?_
  obtain ⟨T29, X29, e29, st29⟩ := getF X28 hx hZ hown (host := "") (Or.inl (hw _ (List.mem_of_getElem? (i := 15) rfl))) Via.refl e28 o_member_28 (g := (mkF m 232 #[.val (.ref a), .val (.long q), .second, .val (.ref st), .val (.long (cn - q)), .second, .val (.int k), .val (.int (1 : Int32)), .val (.int ((1 : Int32) + (1 : Int32))), .val (.int ((1 : Int32) + (1 : Int32)))] [(.ref a)])) rfl rfl (hb hby d5_232)
  refine own_go st29 ?_
  show own_Go p e below _ (T29.setTop (mkF m 235 #[.val (.ref a), .val (.long q), .second, .val (.ref st), .val (.long (cn - q)), .second, .val (.int k), .val (.int (1 : Int32)), .val (.int ((1 : Int32) + (1 : Int32))), .val (.int ((1 : Int32) + (1 : Int32)))] [(.ref kk)]))
  refine own_go (fun _ => XS.iload X29.here hx rfl (hb hby d5_235) rfl) ?_
  refine own_go (fun _ => XS.iload X29.here hx rfl (hb hby d5_237) rfl) ?_
  obtain ⟨T30, h30, X30, e30, W30, A30, st30⟩ := own_stI X29 hx hZ e29 k_A_28 (g := (mkF m 239 #[.val (.ref a), .val (.long q), .second, .val (.ref st), .val (.long (cn - q)), .second, .val (.int k), .val (.int (1 : Int32)), .val (.int ((1 : Int32) + (1 : Int32))), .val (.int ((1 : Int32) + (1 : Int32)))] [(.int k), (.int ((1 : Int32) + (1 : Int32))), (.ref kk)])) rfl rfl (hb hby d5_239) 2 (by decide) (by rw [lk]; decide)
  have N30 := Fr.snoc X30 N28 gk
  have o_E_30 := o_E_28.wr W30
  have o_from_30 := o_from_28.other W30 (Or.inl ne_a_kk)
  have o_lead_30 := o_lead_28.other W30 (Or.inl ne_a_kk)
  have o_member_30 := o_member_28.other W30 (Or.inl ne_a_kk)
  have o_start_30 := o_start_28.other W30 (Or.inl ne_a_kk)
  have o_end_30 := o_end_28.other W30 (Or.inl ne_a_kk)
  have st_E_30 := st_E_28.wr W30
  have f_A_30 := f_A_28.other W30 ne_ff_kk
  have l_A_30 := A28.other W30 ne_ll_kk
  have K30 := K28.wr W30 (Or.inl (List.mem_of_getElem? (i := 3) rfl))
  refine own_go st30 ?_
  exact own_vret X30 hx hlk hret (hb hby d5_240) (by decide) (by decide) (by rw [e30]; exact ⟨rfl, N30, K30, ⟨⟨o_E_30, f_A_30, l_A_30, A30⟩, ⟨o_from_30, o_lead_30, o_member_30, o_start_30, o_end_30⟩, ⟨ne_a_ff, ne_a_ll, ne_a_kk, ne_ff_ll, ne_ff_kk, ne_ll_kk⟩⟩⟩)
/-- the first places of the three arrays hold the entries -/
def own_En (fs ls ks : List Value) (E : List (Int64 × Int64 × Int32)) : Prop := ∀ (i : Nat) (e : Int64 × Int64 × Int32), E[i]? = some e → fs[i]? = some (Value.long e.1) ∧ ls[i]? = some (Value.long e.2.1) ∧ ks[i]? = some (Value.int e.2.2)
theorem own_En.set {fs ls ks : List Value} {E : List (Int64 × Int64 × Int32)} (H : own_En fs ls ks E) (n : Nat) (hn : E.length = n) (hf : n < fs.length) (hl : n < ls.length) (hk : n < ks.length) (e : Int64 × Int64 × Int32) : own_En (fs.set n (.long e.1)) (ls.set n (.long e.2.1)) (ks.set n (.int e.2.2)) (E ++ [e]) := by
  subst hn
  intro i x hx
  by_cases q : i < E.length
  · rw [List.getElem?_append_left q] at hx
    obtain ⟨h1, h2, h3⟩ := H i x hx
    refine ⟨?_, ?_, ?_⟩
    · rw [List.getElem?_set_ne (by omega)]; exact h1
    · rw [List.getElem?_set_ne (by omega)]; exact h2
    · rw [List.getElem?_set_ne (by omega)]; exact h3
  · have hi : i < (E ++ [e]).length := (List.getElem?_eq_some_iff.mp hx).1
    rw [List.length_append] at hi
    have ei : i = E.length := by simp at hi; omega
    subst ei
    rw [List.getElem?_append_right (Nat.le_refl _), Nat.sub_self] at hx
    cases hx
    refine ⟨?_, ?_, ?_⟩
    · rw [List.getElem?_set_self hf]
    · rw [List.getElem?_set_self hl]
    · rw [List.getElem?_set_self hk]
/-- the state: the entries E are kept -/
def own_St (Z : State) (h : Heap) (a ff ll kk : Addr) (E : List (Int64 × Int64 × Int32)) (n : Int32) : Prop := ∃ fs ls ks, own_Ra Z h a ff ll kk fs ls ks n ∧ own_En fs ls ks E ∧ fs.length = 8 ∧ ls.length = 8 ∧ ks.length = 8
def own_keep (d : Int32) (E : List (Int64 × Int64 × Int32)) : List (Int64 × Int64 × Int32) := E.filter fun e => decide (e.2.2 ≠ d)
theorem d11_0 : decode prog_79_method_4_code 0 = .ok (.aload_n 0, 1) := by decide +kernel
theorem d11_1 : decode prog_79_method_4_code 1 = .ok (.getfield 40, 3) := by decide +kernel
theorem d11_4 : decode prog_79_method_4_code 4 = .ok (.istore_n 2, 1) := by decide +kernel
theorem d11_5 : decode prog_79_method_4_code 5 = .ok (.aload_n 0, 1) := by decide +kernel
theorem d11_6 : decode prog_79_method_4_code 6 = .ok (.getfield 40, 3) := by decide +kernel
theorem d11_9 : decode prog_79_method_4_code 9 = .ok (.istore_n 3, 1) := by decide +kernel
theorem d11_10 : decode prog_79_method_4_code 10 = .ok (.iload_n 3, 1) := by decide +kernel
theorem d11_11 : decode prog_79_method_4_code 11 = .ok (.aload_n 0, 1) := by decide +kernel
theorem d11_12 : decode prog_79_method_4_code 12 = .ok (.getfield 29, 3) := by decide +kernel
theorem d11_15 : decode prog_79_method_4_code 15 = .ok (.if_icmp .ge 58, 3) := by decide +kernel
theorem d11_18 : decode prog_79_method_4_code 18 = .ok (.aload_n 0, 1) := by decide +kernel
theorem d11_19 : decode prog_79_method_4_code 19 = .ok (.getfield 16, 3) := by decide +kernel
theorem d11_22 : decode prog_79_method_4_code 22 = .ok (.iload_n 3, 1) := by decide +kernel
theorem d11_23 : decode prog_79_method_4_code 23 = .ok (.iaload, 1) := by decide +kernel
theorem d11_24 : decode prog_79_method_4_code 24 = .ok (.iload_n 1, 1) := by decide +kernel
theorem d11_25 : decode prog_79_method_4_code 25 = .ok (.if_icmp .eq 42, 3) := by decide +kernel
theorem d11_28 : decode prog_79_method_4_code 28 = .ok (.aload_n 0, 1) := by decide +kernel
theorem d11_29 : decode prog_79_method_4_code 29 = .ok (.getfield 7, 3) := by decide +kernel
theorem d11_32 : decode prog_79_method_4_code 32 = .ok (.iload_n 2, 1) := by decide +kernel
theorem d11_33 : decode prog_79_method_4_code 33 = .ok (.aload_n 0, 1) := by decide +kernel
theorem d11_34 : decode prog_79_method_4_code 34 = .ok (.getfield 7, 3) := by decide +kernel
theorem d11_37 : decode prog_79_method_4_code 37 = .ok (.iload_n 3, 1) := by decide +kernel
theorem d11_38 : decode prog_79_method_4_code 38 = .ok (.laload, 1) := by decide +kernel
theorem d11_39 : decode prog_79_method_4_code 39 = .ok (.lastore, 1) := by decide +kernel
theorem d11_40 : decode prog_79_method_4_code 40 = .ok (.aload_n 0, 1) := by decide +kernel
theorem d11_41 : decode prog_79_method_4_code 41 = .ok (.getfield 13, 3) := by decide +kernel
theorem d11_44 : decode prog_79_method_4_code 44 = .ok (.iload_n 2, 1) := by decide +kernel
theorem d11_45 : decode prog_79_method_4_code 45 = .ok (.aload_n 0, 1) := by decide +kernel
theorem d11_46 : decode prog_79_method_4_code 46 = .ok (.getfield 13, 3) := by decide +kernel
theorem d11_49 : decode prog_79_method_4_code 49 = .ok (.iload_n 3, 1) := by decide +kernel
theorem d11_50 : decode prog_79_method_4_code 50 = .ok (.laload, 1) := by decide +kernel
theorem d11_51 : decode prog_79_method_4_code 51 = .ok (.lastore, 1) := by decide +kernel
theorem d11_52 : decode prog_79_method_4_code 52 = .ok (.aload_n 0, 1) := by decide +kernel
theorem d11_53 : decode prog_79_method_4_code 53 = .ok (.getfield 16, 3) := by decide +kernel
theorem d11_56 : decode prog_79_method_4_code 56 = .ok (.iload_n 2, 1) := by decide +kernel
theorem d11_57 : decode prog_79_method_4_code 57 = .ok (.aload_n 0, 1) := by decide +kernel
theorem d11_58 : decode prog_79_method_4_code 58 = .ok (.getfield 16, 3) := by decide +kernel
theorem d11_61 : decode prog_79_method_4_code 61 = .ok (.iload_n 3, 1) := by decide +kernel
theorem d11_62 : decode prog_79_method_4_code 62 = .ok (.iaload, 1) := by decide +kernel
theorem d11_63 : decode prog_79_method_4_code 63 = .ok (.iastore, 1) := by decide +kernel
theorem d11_64 : decode prog_79_method_4_code 64 = .ok (.iinc 2 1, 3) := by decide +kernel
theorem d11_67 : decode prog_79_method_4_code 67 = .ok (.iinc 3 1, 3) := by decide +kernel
theorem d11_70 : decode prog_79_method_4_code 70 = .ok (.goto (-60), 3) := by decide +kernel
theorem d11_73 : decode prog_79_method_4_code 73 = .ok (.aload_n 0, 1) := by decide +kernel
theorem d11_74 : decode prog_79_method_4_code 74 = .ok (.iload_n 2, 1) := by decide +kernel
theorem d11_75 : decode prog_79_method_4_code 75 = .ok (.putfield 29, 3) := by decide +kernel
theorem d11_78 : decode prog_79_method_4_code 78 = .ok (.return_, 1) := by decide +kernel
set_option maxRecDepth 65536 in
set_option maxHeartbeats 40000000 in
theorem own_forget_con (l : Launch) (Z : State) (a0 : Array Value) (hw : ∀ d ∈ tables_1, d.before a0 Z = true) (a ff ll kk : Addr) (fs ls ks : List Value) (f0 f1 f2 u0 u1 u2 : Int64) (k0 k1 k2 d : Int32) (n0 : Nat) (h0 : Heap) (I0 : own_Ra Z h0 a ff ll kk fs ls ks 3) (HE : own_En fs ls ks [(f0, u0, k0), (f1, u1, k1), (f2, u2, k2)]) (lf : fs.length = 8) (lL : ls.length = 8) (lk : ks.length = 8) (ga : n0 ≤ a) (gf : n0 ≤ ff) (gl : n0 ≤ ll) (gk : n0 ≤ kk) (ws : List Jvm.Cond) :
    own_Con l Z (⟨"tidemark/protocol/Raises", "forget", "(I)V"⟩ : MethodName) prog_79_method_4_code 4 none ({ frames := 0, cells := 0, slots := 0, locals := 0 } : Room) #[(.ref a), (.int d)] h0 (fun v h L => v = none ∧ Fr n0 L ∧ Keep h0 h [a, ff, ll, kk] ∧ own_St Z h a ff ll kk (own_keep d [(f0, u0, k0), (f1, u1, k1), (f2, u2, k2)]) (Int32.ofNat (own_keep d [(f0, u0, k0), (f1, u1, k1), (f2, u2, k2)]).length)) ws := by
  refine own_con (F := fun m => (mkF m 0 #[.val (.ref a), .val (.int d), .unset, .unset] [])) (own_pn (by first | (simp [plainName, overriddenIn]; done) | decide +kernel)) (fun m => by first | (simp [entryFrame, mkF, argsToLocals, Value.category]; done) | rfl) ?_
  intro p e s m below meth c T X hx hby hml hZ hown hnm hret hlk eT
  show own_Go p e below (own_Out s (fun v h L => v = none ∧ Fr n0 L ∧ Keep h0 h [a, ff, ll, kk] ∧ own_St Z h a ff ll kk (own_keep d [(f0, u0, k0), (f1, u1, k1), (f2, u2, k2)]) (Int32.ofNat (own_keep d [(f0, u0, k0), (f1, u1, k1), (f2, u2, k2)]).length)) ({ frames := 0, cells := 0, slots := 0, locals := 0 } : Room).cells ({ frames := 0, cells := 0, slots := 0, locals := 0 } : Room).slots) (T.setTop (mkF m 0 #[.val (.ref a), .val (.int d), .unset, .unset] []))
  obtain ⟨⟨o_E0, f_A0, l_A0, k_A0⟩, ⟨o_from0, o_lead0, o_member0, o_start0, o_end0⟩, ⟨ne_a_ff, ne_a_ll, ne_a_kk, ne_ff_ll, ne_ff_kk, ne_ll_kk⟩⟩ := I0
  have N0 := Fr.nil n0
  have K0 := Keep.refl h0 [a, ff, ll, kk]
  obtain ⟨vf0, vl0, vk0⟩ := HE 0 (f0, u0, k0) rfl
  obtain ⟨vf1, vl1, vk1⟩ := HE 1 (f1, u1, k1) rfl
  obtain ⟨vf2, vl2, vk2⟩ := HE 2 (f2, u2, k2) rfl
  refine own_go (fun _ => XS.aloadN X.here hx rfl (hb hby d11_0) rfl rfl) ?_
  obtain ⟨T1, X1, e1, st1⟩ := getF X hx hZ hown (host := "") (Or.inl (hw _ (List.mem_of_getElem? (i := 54) rfl))) Via.refl eT o_start0 (g := (mkF m 1 #[.val (.ref a), .val (.int d), .unset, .unset] [(.ref a)])) rfl rfl (hb hby d11_1)
  refine own_go st1 ?_
  refine own_go (fun _ => XS.istoreN X1.here hx rfl (hb hby d11_4) rfl (l' := #[.val (.ref a), .val (.int d), .val (.int (0 : Int32)), .unset]) rfl) ?_
  refine own_go (fun _ => XS.aloadN X1.here hx rfl (hb hby d11_5) rfl rfl) ?_
  show own_Go p e below _ (T1.setTop (mkF m 6 #[.val (.ref a), .val (.int d), .val (.int (0 : Int32)), .unset] [(.ref a)]))
  obtain ⟨T2, X2, e2, st2⟩ := getF X1 hx hZ hown (host := "") (Or.inl (hw _ (List.mem_of_getElem? (i := 54) rfl))) Via.refl e1 o_start0 (g := (mkF m 6 #[.val (.ref a), .val (.int d), .val (.int (0 : Int32)), .unset] [(.ref a)])) rfl rfl (hb hby d11_6)
  refine own_go st2 ?_
  refine own_go (fun _ => XS.istoreN X2.here hx rfl (hb hby d11_9) rfl (l' := #[.val (.ref a), .val (.int d), .val (.int (0 : Int32)), .val (.int (0 : Int32))]) rfl) ?_
  refine own_go (fun _ => XS.iloadN X2.here hx rfl (hb hby d11_10) rfl) ?_
  refine own_go (fun _ => XS.aloadN X2.here hx rfl (hb hby d11_11) rfl rfl) ?_
  show own_Go p e below _ (T2.setTop (mkF m 12 #[.val (.ref a), .val (.int d), .val (.int (0 : Int32)), .val (.int (0 : Int32))] [(.ref a), (.int (0 : Int32))]))
  obtain ⟨T3, X3, e3, st3⟩ := getF X2 hx hZ hown (host := "") (Or.inl (hw _ (List.mem_of_getElem? (i := 48) rfl))) Via.refl e2 o_end0 (g := (mkF m 12 #[.val (.ref a), .val (.int d), .val (.int (0 : Int32)), .val (.int (0 : Int32))] [(.ref a), (.int (0 : Int32))])) rfl rfl (hb hby d11_12)
  refine own_go st3 ?_
  refine own_go (fun _ => XS.icmpNo X3.here hx rfl (hb hby d11_15) rfl (XT.ii_ge_f (by decide))) ?_
  refine own_go (fun _ => XS.aloadN X3.here hx rfl (hb hby d11_18) rfl rfl) ?_
  obtain ⟨T4, X4, e4, st4⟩ := getF X3 hx hZ hown (host := "") (Or.inl (hw _ (List.mem_of_getElem? (i := 15) rfl))) Via.refl e3 o_member0 (g := (mkF m 19 #[.val (.ref a), .val (.int d), .val (.int (0 : Int32)), .val (.int (0 : Int32))] [(.ref a)])) rfl rfl (hb hby d11_19)
  refine own_go st4 ?_
  show own_Go p e below _ (T4.setTop (mkF m 22 #[.val (.ref a), .val (.int d), .val (.int (0 : Int32)), .val (.int (0 : Int32))] [(.ref kk)]))
  refine own_go (fun _ => XS.iloadN X4.here hx rfl (hb hby d11_22) rfl) ?_
  refine own_go (own_ldI X4 hx hZ e4 k_A0 (g := (mkF m 23 #[.val (.ref a), .val (.int d), .val (.int (0 : Int32)), .val (.int (0 : Int32))] [(.int (0 : Int32)), (.ref kk)])) rfl rfl (hb hby d11_23) 0 (by decide) (x := (.int k0)) vk0) ?_
  refine own_go (fun _ => XS.iloadN X4.here hx rfl (hb hby d11_24) rfl) ?_
  by_cases hk0 : k0 = d
  · skip
    refine own_go (fun _ => XS.icmpYes X4.here hx rfl (pc0 := 25) (pc' := 67) rfl (hb hby d11_25) rfl (XT.ii_eq_t hk0) (by decide) (by decide)) ?_
    show own_Go p e below _ (T4.setTop (mkF m 67 #[.val (.ref a), .val (.int d), .val (.int (0 : Int32)), .val (.int (0 : Int32))] []))
    refine own_go (fun _ => XT.iincV X4.here hx rfl (1 : Int32) (hb hby d11_67) rfl rfl (l' := #[.val (.ref a), .val (.int d), .val (.int (0 : Int32)), .val (.int ((0 : Int32) + (1 : Int32)))]) rfl) ?_
    refine own_go (fun _ => XS.goto X4.here hx rfl (pc0 := 70) (pc' := 10) rfl (hb hby d11_70) (by decide) (by decide)) ?_
    refine own_go (fun _ => XS.iloadN X4.here hx rfl (hb hby d11_10) rfl) ?_
    refine own_go (fun _ => XS.aloadN X4.here hx rfl (hb hby d11_11) rfl rfl) ?_
    show own_Go p e below _ (T4.setTop (mkF m 12 #[.val (.ref a), .val (.int d), .val (.int (0 : Int32)), .val (.int ((0 : Int32) + (1 : Int32)))] [(.ref a), (.int ((0 : Int32) + (1 : Int32)))]))
    obtain ⟨T5, X5, e5, st5⟩ := getF X4 hx hZ hown (host := "") (Or.inl (hw _ (List.mem_of_getElem? (i := 48) rfl))) Via.refl e4 o_end0 (g := (mkF m 12 #[.val (.ref a), .val (.int d), .val (.int (0 : Int32)), .val (.int ((0 : Int32) + (1 : Int32)))] [(.ref a), (.int ((0 : Int32) + (1 : Int32)))])) rfl rfl (hb hby d11_12)
    refine own_go st5 ?_
    refine own_go (fun _ => XS.icmpNo X5.here hx rfl (hb hby d11_15) rfl (XT.ii_ge_f (by decide))) ?_
    refine own_go (fun _ => XS.aloadN X5.here hx rfl (hb hby d11_18) rfl rfl) ?_
    obtain ⟨T6, X6, e6, st6⟩ := getF X5 hx hZ hown (host := "") (Or.inl (hw _ (List.mem_of_getElem? (i := 15) rfl))) Via.refl e5 o_member0 (g := (mkF m 19 #[.val (.ref a), .val (.int d), .val (.int (0 : Int32)), .val (.int ((0 : Int32) + (1 : Int32)))] [(.ref a)])) rfl rfl (hb hby d11_19)
    refine own_go st6 ?_
    show own_Go p e below _ (T6.setTop (mkF m 22 #[.val (.ref a), .val (.int d), .val (.int (0 : Int32)), .val (.int ((0 : Int32) + (1 : Int32)))] [(.ref kk)]))
    refine own_go (fun _ => XS.iloadN X6.here hx rfl (hb hby d11_22) rfl) ?_
    refine own_go (own_ldI X6 hx hZ e6 k_A0 (g := (mkF m 23 #[.val (.ref a), .val (.int d), .val (.int (0 : Int32)), .val (.int ((0 : Int32) + (1 : Int32)))] [(.int ((0 : Int32) + (1 : Int32))), (.ref kk)])) rfl rfl (hb hby d11_23) 1 (by decide) (x := (.int k1)) vk1) ?_
    refine own_go (fun _ => XS.iloadN X6.here hx rfl (hb hby d11_24) rfl) ?_
    by_cases hk1 : k1 = d
    · skip
      refine own_go (fun _ => XS.icmpYes X6.here hx rfl (pc0 := 25) (pc' := 67) rfl (hb hby d11_25) rfl (XT.ii_eq_t hk1) (by decide) (by decide)) ?_
      show own_Go p e below _ (T6.setTop (mkF m 67 #[.val (.ref a), .val (.int d), .val (.int (0 : Int32)), .val (.int ((0 : Int32) + (1 : Int32)))] []))
      refine own_go (fun _ => XT.iincV X6.here hx rfl (1 : Int32) (hb hby d11_67) rfl rfl (l' := #[.val (.ref a), .val (.int d), .val (.int (0 : Int32)), .val (.int (((0 : Int32) + (1 : Int32)) + (1 : Int32)))]) rfl) ?_
      refine own_go (fun _ => XS.goto X6.here hx rfl (pc0 := 70) (pc' := 10) rfl (hb hby d11_70) (by decide) (by decide)) ?_
      refine own_go (fun _ => XS.iloadN X6.here hx rfl (hb hby d11_10) rfl) ?_
      refine own_go (fun _ => XS.aloadN X6.here hx rfl (hb hby d11_11) rfl rfl) ?_
      show own_Go p e below _ (T6.setTop (mkF m 12 #[.val (.ref a), .val (.int d), .val (.int (0 : Int32)), .val (.int (((0 : Int32) + (1 : Int32)) + (1 : Int32)))] [(.ref a), (.int (((0 : Int32) + (1 : Int32)) + (1 : Int32)))]))
      obtain ⟨T7, X7, e7, st7⟩ := getF X6 hx hZ hown (host := "") (Or.inl (hw _ (List.mem_of_getElem? (i := 48) rfl))) Via.refl e6 o_end0 (g := (mkF m 12 #[.val (.ref a), .val (.int d), .val (.int (0 : Int32)), .val (.int (((0 : Int32) + (1 : Int32)) + (1 : Int32)))] [(.ref a), (.int (((0 : Int32) + (1 : Int32)) + (1 : Int32)))])) rfl rfl (hb hby d11_12)
      refine own_go st7 ?_
      refine own_go (fun _ => XS.icmpNo X7.here hx rfl (hb hby d11_15) rfl (XT.ii_ge_f (by decide))) ?_
      refine own_go (fun _ => XS.aloadN X7.here hx rfl (hb hby d11_18) rfl rfl) ?_
      obtain ⟨T8, X8, e8, st8⟩ := getF X7 hx hZ hown (host := "") (Or.inl (hw _ (List.mem_of_getElem? (i := 15) rfl))) Via.refl e7 o_member0 (g := (mkF m 19 #[.val (.ref a), .val (.int d), .val (.int (0 : Int32)), .val (.int (((0 : Int32) + (1 : Int32)) + (1 : Int32)))] [(.ref a)])) rfl rfl (hb hby d11_19)
      refine own_go st8 ?_
      show own_Go p e below _ (T8.setTop (mkF m 22 #[.val (.ref a), .val (.int d), .val (.int (0 : Int32)), .val (.int (((0 : Int32) + (1 : Int32)) + (1 : Int32)))] [(.ref kk)]))
      refine own_go (fun _ => XS.iloadN X8.here hx rfl (hb hby d11_22) rfl) ?_
      refine own_go (own_ldI X8 hx hZ e8 k_A0 (g := (mkF m 23 #[.val (.ref a), .val (.int d), .val (.int (0 : Int32)), .val (.int (((0 : Int32) + (1 : Int32)) + (1 : Int32)))] [(.int (((0 : Int32) + (1 : Int32)) + (1 : Int32))), (.ref kk)])) rfl rfl (hb hby d11_23) 2 (by decide) (x := (.int k2)) vk2) ?_
      refine own_go (fun _ => XS.iloadN X8.here hx rfl (hb hby d11_24) rfl) ?_
      by_cases hk2 : k2 = d
      · skip
        refine own_go (fun _ => XS.icmpYes X8.here hx rfl (pc0 := 25) (pc' := 67) rfl (hb hby d11_25) rfl (XT.ii_eq_t hk2) (by decide) (by decide)) ?_
        show own_Go p e below _ (T8.setTop (mkF m 67 #[.val (.ref a), .val (.int d), .val (.int (0 : Int32)), .val (.int (((0 : Int32) + (1 : Int32)) + (1 : Int32)))] []))
        refine own_go (fun _ => XT.iincV X8.here hx rfl (1 : Int32) (hb hby d11_67) rfl rfl (l' := #[.val (.ref a), .val (.int d), .val (.int (0 : Int32)), .val (.int ((((0 : Int32) + (1 : Int32)) + (1 : Int32)) + (1 : Int32)))]) rfl) ?_
        refine own_go (fun _ => XS.goto X8.here hx rfl (pc0 := 70) (pc' := 10) rfl (hb hby d11_70) (by decide) (by decide)) ?_
        refine own_go (fun _ => XS.iloadN X8.here hx rfl (hb hby d11_10) rfl) ?_
        refine own_go (fun _ => XS.aloadN X8.here hx rfl (hb hby d11_11) rfl rfl) ?_
        show own_Go p e below _ (T8.setTop (mkF m 12 #[.val (.ref a), .val (.int d), .val (.int (0 : Int32)), .val (.int ((((0 : Int32) + (1 : Int32)) + (1 : Int32)) + (1 : Int32)))] [(.ref a), (.int ((((0 : Int32) + (1 : Int32)) + (1 : Int32)) + (1 : Int32)))]))
        obtain ⟨T9, X9, e9, st9⟩ := getF X8 hx hZ hown (host := "") (Or.inl (hw _ (List.mem_of_getElem? (i := 48) rfl))) Via.refl e8 o_end0 (g := (mkF m 12 #[.val (.ref a), .val (.int d), .val (.int (0 : Int32)), .val (.int ((((0 : Int32) + (1 : Int32)) + (1 : Int32)) + (1 : Int32)))] [(.ref a), (.int ((((0 : Int32) + (1 : Int32)) + (1 : Int32)) + (1 : Int32)))])) rfl rfl (hb hby d11_12)
        refine own_go st9 ?_
        refine own_go (fun _ => XS.icmpYes X9.here hx rfl (pc0 := 15) (pc' := 73) rfl (hb hby d11_15) rfl (XT.ii_ge_t (by decide)) (by decide) (by decide)) ?_
        refine own_go (fun _ => XS.aloadN X9.here hx rfl (hb hby d11_73) rfl rfl) ?_
        refine own_go (fun _ => XS.iloadN X9.here hx rfl (hb hby d11_74) rfl) ?_
        show own_Go p e below _ (T9.setTop (mkF m 75 #[.val (.ref a), .val (.int d), .val (.int (0 : Int32)), .val (.int ((((0 : Int32) + (1 : Int32)) + (1 : Int32)) + (1 : Int32)))] [(.int (0 : Int32)), (.ref a)]))
        obtain ⟨T10, h10, X10, e10, W10, st10⟩ := putF X9 hx hZ hown (host := "") (Or.inl (hw _ (List.mem_of_getElem? (i := 48) rfl))) Via.refl e9 o_end0 o_E0 (Or.inl (hw _ (List.mem_of_getElem? (i := 49) rfl))) (hw _ (List.mem_of_getElem? (i := 1) rfl)) (ty := .int) (by decide) rfl rfl (g := (mkF m 75 #[.val (.ref a), .val (.int d), .val (.int (0 : Int32)), .val (.int ((((0 : Int32) + (1 : Int32)) + (1 : Int32)) + (1 : Int32)))] [(.int (0 : Int32)), (.ref a)])) rfl rfl (hb hby d11_75)
        have N10 := Fr.snoc X10 N0 ga
        have o_E_10 := o_E0.wr W10
        have o_from_10 := o_from0.other W10 (Or.inr (slot_ne (t := (.array .long)) (t' := .int) (Or.inl (hw _ (List.mem_of_getElem? (i := 11) rfl))) (Or.inl (hw _ (List.mem_of_getElem? (i := 49) rfl))) (by decide) (by decide) (by decide)))
        have o_lead_10 := o_lead0.other W10 (Or.inr (slot_ne (t := (.array .long)) (t' := .int) (Or.inl (hw _ (List.mem_of_getElem? (i := 13) rfl))) (Or.inl (hw _ (List.mem_of_getElem? (i := 49) rfl))) (by decide) (by decide) (by decide)))
        have o_member_10 := o_member0.other W10 (Or.inr (slot_ne (t := (.array .int)) (t' := .int) (Or.inl (hw _ (List.mem_of_getElem? (i := 16) rfl))) (Or.inl (hw _ (List.mem_of_getElem? (i := 49) rfl))) (by decide) (by decide) (by decide)))
        have o_start_10 := o_start0.other W10 (Or.inr (slot_ne (t := .int) (t' := .int) (Or.inl (hw _ (List.mem_of_getElem? (i := 55) rfl))) (Or.inl (hw _ (List.mem_of_getElem? (i := 49) rfl))) (by decide) (by decide) (by decide)))
        have o_end_10 := o_end0.same W10
        have f_A_10 := f_A0.other W10 (Ne.symm ne_a_ff)
        have l_A_10 := l_A0.other W10 (Ne.symm ne_a_ll)
        have k_A_10 := k_A0.other W10 (Ne.symm ne_a_kk)
        have K10 := K0.wr W10 (Or.inl (List.mem_of_getElem? (i := 0) rfl))
        refine own_go st10 ?_
        have ek : own_keep d [(f0, u0, k0), (f1, u1, k1), (f2, u2, k2)] = [] := by simp [own_keep, hk0, hk1, hk2]
        rw [ek]
        have own_en0 : own_En fs ls ks [] := fun i e q => by cases i <;> simp at q
        exact own_vret X10 hx hlk hret (hb hby d11_78) (by decide) (by decide) (by rw [e10]; exact ⟨rfl, N10, K10, _, _, _, ⟨⟨o_E_10, f_A_10, l_A_10, k_A_10⟩, ⟨o_from_10, o_lead_10, o_member_10, o_start_10, o_end_10⟩, ⟨ne_a_ff, ne_a_ll, ne_a_kk, ne_ff_ll, ne_ff_kk, ne_ll_kk⟩⟩, own_en0, by simp [lf], by simp [lL], by simp [lk]⟩)
      · skip
        refine own_go (fun _ => XS.icmpNo X8.here hx rfl (hb hby d11_25) rfl (XT.ii_eq_f hk2)) ?_
        refine own_go (fun _ => XS.aloadN X8.here hx rfl (hb hby d11_28) rfl rfl) ?_
        obtain ⟨T11, X11, e11, st11⟩ := getF X8 hx hZ hown (host := "") (Or.inl (hw _ (List.mem_of_getElem? (i := 10) rfl))) Via.refl e8 o_from0 (g := (mkF m 29 #[.val (.ref a), .val (.int d), .val (.int (0 : Int32)), .val (.int (((0 : Int32) + (1 : Int32)) + (1 : Int32)))] [(.ref a)])) rfl rfl (hb hby d11_29)
        refine own_go st11 ?_
        show own_Go p e below _ (T11.setTop (mkF m 32 #[.val (.ref a), .val (.int d), .val (.int (0 : Int32)), .val (.int (((0 : Int32) + (1 : Int32)) + (1 : Int32)))] [(.ref ff)]))
        refine own_go (fun _ => XS.iloadN X11.here hx rfl (hb hby d11_32) rfl) ?_
        refine own_go (fun _ => XS.aloadN X11.here hx rfl (hb hby d11_33) rfl rfl) ?_
        obtain ⟨T12, X12, e12, st12⟩ := getF X11 hx hZ hown (host := "") (Or.inl (hw _ (List.mem_of_getElem? (i := 10) rfl))) Via.refl e11 o_from0 (g := (mkF m 34 #[.val (.ref a), .val (.int d), .val (.int (0 : Int32)), .val (.int (((0 : Int32) + (1 : Int32)) + (1 : Int32)))] [(.ref a), (.int (0 : Int32)), (.ref ff)])) rfl rfl (hb hby d11_34)
        refine own_go st12 ?_
        refine own_go (fun _ => XS.iloadN X12.here hx rfl (hb hby d11_37) rfl) ?_
        show own_Go p e below _ (T12.setTop (mkF m 38 #[.val (.ref a), .val (.int d), .val (.int (0 : Int32)), .val (.int (((0 : Int32) + (1 : Int32)) + (1 : Int32)))] [(.int (((0 : Int32) + (1 : Int32)) + (1 : Int32))), (.ref ff), (.int (0 : Int32)), (.ref ff)]))
        refine own_go (own_ldJ X12 hx hZ e12 f_A0 (g := (mkF m 38 #[.val (.ref a), .val (.int d), .val (.int (0 : Int32)), .val (.int (((0 : Int32) + (1 : Int32)) + (1 : Int32)))] [(.int (((0 : Int32) + (1 : Int32)) + (1 : Int32))), (.ref ff), (.int (0 : Int32)), (.ref ff)])) rfl rfl (hb hby d11_38) 2 (by decide) (x := (.long f2)) vf2) ?_
        obtain ⟨T13, h13, X13, e13, W13, A13, st13⟩ := own_stJ X12 hx hZ e12 f_A0 (g := (mkF m 39 #[.val (.ref a), .val (.int d), .val (.int (0 : Int32)), .val (.int (((0 : Int32) + (1 : Int32)) + (1 : Int32)))] [(.long f2), (.int (0 : Int32)), (.ref ff)])) rfl rfl (hb hby d11_39) 0 (by decide) (by simp [lf])
        have N13 := Fr.snoc X13 N0 gf
        have o_E_13 := o_E0.wr W13
        have o_from_13 := o_from0.other W13 (Or.inl ne_a_ff)
        have o_lead_13 := o_lead0.other W13 (Or.inl ne_a_ff)
        have o_member_13 := o_member0.other W13 (Or.inl ne_a_ff)
        have o_start_13 := o_start0.other W13 (Or.inl ne_a_ff)
        have o_end_13 := o_end0.other W13 (Or.inl ne_a_ff)
        have l_A_13 := l_A0.other W13 (Ne.symm ne_ff_ll)
        have k_A_13 := k_A0.other W13 (Ne.symm ne_ff_kk)
        have K13 := K0.wr W13 (Or.inl (List.mem_of_getElem? (i := 1) rfl))
        refine own_go st13 ?_
        refine own_go (fun _ => XS.aloadN X13.here hx rfl (hb hby d11_40) rfl rfl) ?_
        obtain ⟨T14, X14, e14, st14⟩ := getF X13 hx hZ hown (host := "") (Or.inl (hw _ (List.mem_of_getElem? (i := 12) rfl))) Via.refl e13 o_lead_13 (g := (mkF m 41 #[.val (.ref a), .val (.int d), .val (.int (0 : Int32)), .val (.int (((0 : Int32) + (1 : Int32)) + (1 : Int32)))] [(.ref a)])) rfl rfl (hb hby d11_41)
        refine own_go st14 ?_
        show own_Go p e below _ (T14.setTop (mkF m 44 #[.val (.ref a), .val (.int d), .val (.int (0 : Int32)), .val (.int (((0 : Int32) + (1 : Int32)) + (1 : Int32)))] [(.ref ll)]))
        refine own_go (fun _ => XS.iloadN X14.here hx rfl (hb hby d11_44) rfl) ?_
        refine own_go (fun _ => XS.aloadN X14.here hx rfl (hb hby d11_45) rfl rfl) ?_
        obtain ⟨T15, X15, e15, st15⟩ := getF X14 hx hZ hown (host := "") (Or.inl (hw _ (List.mem_of_getElem? (i := 12) rfl))) Via.refl e14 o_lead_13 (g := (mkF m 46 #[.val (.ref a), .val (.int d), .val (.int (0 : Int32)), .val (.int (((0 : Int32) + (1 : Int32)) + (1 : Int32)))] [(.ref a), (.int (0 : Int32)), (.ref ll)])) rfl rfl (hb hby d11_46)
        refine own_go st15 ?_
        refine own_go (fun _ => XS.iloadN X15.here hx rfl (hb hby d11_49) rfl) ?_
        show own_Go p e below _ (T15.setTop (mkF m 50 #[.val (.ref a), .val (.int d), .val (.int (0 : Int32)), .val (.int (((0 : Int32) + (1 : Int32)) + (1 : Int32)))] [(.int (((0 : Int32) + (1 : Int32)) + (1 : Int32))), (.ref ll), (.int (0 : Int32)), (.ref ll)]))
        refine own_go (own_ldJ X15 hx hZ e15 l_A_13 (g := (mkF m 50 #[.val (.ref a), .val (.int d), .val (.int (0 : Int32)), .val (.int (((0 : Int32) + (1 : Int32)) + (1 : Int32)))] [(.int (((0 : Int32) + (1 : Int32)) + (1 : Int32))), (.ref ll), (.int (0 : Int32)), (.ref ll)])) rfl rfl (hb hby d11_50) 2 (by decide) (x := (.long u2)) vl2) ?_
        obtain ⟨T16, h16, X16, e16, W16, A16, st16⟩ := own_stJ X15 hx hZ e15 l_A_13 (g := (mkF m 51 #[.val (.ref a), .val (.int d), .val (.int (0 : Int32)), .val (.int (((0 : Int32) + (1 : Int32)) + (1 : Int32)))] [(.long u2), (.int (0 : Int32)), (.ref ll)])) rfl rfl (hb hby d11_51) 0 (by decide) (by simp [lL])
        have N16 := Fr.snoc X16 N13 gl
        have o_E_16 := o_E_13.wr W16
        have o_from_16 := o_from_13.other W16 (Or.inl ne_a_ll)
        have o_lead_16 := o_lead_13.other W16 (Or.inl ne_a_ll)
        have o_member_16 := o_member_13.other W16 (Or.inl ne_a_ll)
        have o_start_16 := o_start_13.other W16 (Or.inl ne_a_ll)
        have o_end_16 := o_end_13.other W16 (Or.inl ne_a_ll)
        have f_A_16 := A13.other W16 ne_ff_ll
        have k_A_16 := k_A_13.other W16 (Ne.symm ne_ll_kk)
        have K16 := K13.wr W16 (Or.inl (List.mem_of_getElem? (i := 2) rfl))
        refine own_go st16 ?_
        refine own_go (fun _ => XS.aloadN X16.here hx rfl (hb hby d11_52) rfl rfl) ?_
        obtain ⟨T17, X17, e17, st17⟩ := getF X16 hx hZ hown (host := "") (Or.inl (hw _ (List.mem_of_getElem? (i := 15) rfl))) Via.refl e16 o_member_16 (g := (mkF m 53 #[.val (.ref a), .val (.int d), .val (.int (0 : Int32)), .val (.int (((0 : Int32) + (1 : Int32)) + (1 : Int32)))] [(.ref a)])) rfl rfl (hb hby d11_53)
        refine own_go st17 ?_
        show own_Go p e below _ (T17.setTop (mkF m 56 #[.val (.ref a), .val (.int d), .val (.int (0 : Int32)), .val (.int (((0 : Int32) + (1 : Int32)) + (1 : Int32)))] [(.ref kk)]))
        refine own_go (fun _ => XS.iloadN X17.here hx rfl (hb hby d11_56) rfl) ?_
        refine own_go (fun _ => XS.aloadN X17.here hx rfl (hb hby d11_57) rfl rfl) ?_
        obtain ⟨T18, X18, e18, st18⟩ := getF X17 hx hZ hown (host := "") (Or.inl (hw _ (List.mem_of_getElem? (i := 15) rfl))) Via.refl e17 o_member_16 (g := (mkF m 58 #[.val (.ref a), .val (.int d), .val (.int (0 : Int32)), .val (.int (((0 : Int32) + (1 : Int32)) + (1 : Int32)))] [(.ref a), (.int (0 : Int32)), (.ref kk)])) rfl rfl (hb hby d11_58)
        refine own_go st18 ?_
        refine own_go (fun _ => XS.iloadN X18.here hx rfl (hb hby d11_61) rfl) ?_
        show own_Go p e below _ (T18.setTop (mkF m 62 #[.val (.ref a), .val (.int d), .val (.int (0 : Int32)), .val (.int (((0 : Int32) + (1 : Int32)) + (1 : Int32)))] [(.int (((0 : Int32) + (1 : Int32)) + (1 : Int32))), (.ref kk), (.int (0 : Int32)), (.ref kk)]))
        refine own_go (own_ldI X18 hx hZ e18 k_A_16 (g := (mkF m 62 #[.val (.ref a), .val (.int d), .val (.int (0 : Int32)), .val (.int (((0 : Int32) + (1 : Int32)) + (1 : Int32)))] [(.int (((0 : Int32) + (1 : Int32)) + (1 : Int32))), (.ref kk), (.int (0 : Int32)), (.ref kk)])) rfl rfl (hb hby d11_62) 2 (by decide) (x := (.int k2)) vk2) ?_
        obtain ⟨T19, h19, X19, e19, W19, A19, st19⟩ := own_stI X18 hx hZ e18 k_A_16 (g := (mkF m 63 #[.val (.ref a), .val (.int d), .val (.int (0 : Int32)), .val (.int (((0 : Int32) + (1 : Int32)) + (1 : Int32)))] [(.int k2), (.int (0 : Int32)), (.ref kk)])) rfl rfl (hb hby d11_63) 0 (by decide) (by simp [lk])
        have N19 := Fr.snoc X19 N16 gk
        have o_E_19 := o_E_16.wr W19
        have o_from_19 := o_from_16.other W19 (Or.inl ne_a_kk)
        have o_lead_19 := o_lead_16.other W19 (Or.inl ne_a_kk)
        have o_member_19 := o_member_16.other W19 (Or.inl ne_a_kk)
        have o_start_19 := o_start_16.other W19 (Or.inl ne_a_kk)
        have o_end_19 := o_end_16.other W19 (Or.inl ne_a_kk)
        have f_A_19 := f_A_16.other W19 ne_ff_kk
        have l_A_19 := A16.other W19 ne_ll_kk
        have K19 := K16.wr W19 (Or.inl (List.mem_of_getElem? (i := 3) rfl))
        refine own_go st19 ?_
        refine own_go (fun _ => XT.iincV X19.here hx rfl (1 : Int32) (hb hby d11_64) rfl rfl (l' := #[.val (.ref a), .val (.int d), .val (.int ((0 : Int32) + (1 : Int32))), .val (.int (((0 : Int32) + (1 : Int32)) + (1 : Int32)))]) rfl) ?_
        refine own_go (fun _ => XT.iincV X19.here hx rfl (1 : Int32) (hb hby d11_67) rfl rfl (l' := #[.val (.ref a), .val (.int d), .val (.int ((0 : Int32) + (1 : Int32))), .val (.int ((((0 : Int32) + (1 : Int32)) + (1 : Int32)) + (1 : Int32)))]) rfl) ?_
        show own_Go p e below _ (T19.setTop (mkF m 70 #[.val (.ref a), .val (.int d), .val (.int ((0 : Int32) + (1 : Int32))), .val (.int ((((0 : Int32) + (1 : Int32)) + (1 : Int32)) + (1 : Int32)))] []))
        refine own_go (fun _ => XS.goto X19.here hx rfl (pc0 := 70) (pc' := 10) rfl (hb hby d11_70) (by decide) (by decide)) ?_
        refine own_go (fun _ => XS.iloadN X19.here hx rfl (hb hby d11_10) rfl) ?_
        refine own_go (fun _ => XS.aloadN X19.here hx rfl (hb hby d11_11) rfl rfl) ?_
        obtain ⟨T20, X20, e20, st20⟩ := getF X19 hx hZ hown (host := "") (Or.inl (hw _ (List.mem_of_getElem? (i := 48) rfl))) Via.refl e19 o_end_19 (g := (mkF m 12 #[.val (.ref a), .val (.int d), .val (.int ((0 : Int32) + (1 : Int32))), .val (.int ((((0 : Int32) + (1 : Int32)) + (1 : Int32)) + (1 : Int32)))] [(.ref a), (.int ((((0 : Int32) + (1 : Int32)) + (1 : Int32)) + (1 : Int32)))])) rfl rfl (hb hby d11_12)
        refine own_go st20 ?_
        show own_Go p e below _ (T20.setTop (mkF m 15 #[.val (.ref a), .val (.int d), .val (.int ((0 : Int32) + (1 : Int32))), .val (.int ((((0 : Int32) + (1 : Int32)) + (1 : Int32)) + (1 : Int32)))] [(.int (3 : Int32)), (.int ((((0 : Int32) + (1 : Int32)) + (1 : Int32)) + (1 : Int32)))]))
        refine own_go (fun _ => XS.icmpYes X20.here hx rfl (pc0 := 15) (pc' := 73) rfl (hb hby d11_15) rfl (XT.ii_ge_t (by decide)) (by decide) (by decide)) ?_
        refine own_go (fun _ => XS.aloadN X20.here hx rfl (hb hby d11_73) rfl rfl) ?_
        refine own_go (fun _ => XS.iloadN X20.here hx rfl (hb hby d11_74) rfl) ?_
        obtain ⟨T21, h21, X21, e21, W21, st21⟩ := putF X20 hx hZ hown (host := "") (Or.inl (hw _ (List.mem_of_getElem? (i := 48) rfl))) Via.refl e20 o_end_19 o_E_19 (Or.inl (hw _ (List.mem_of_getElem? (i := 49) rfl))) (hw _ (List.mem_of_getElem? (i := 1) rfl)) (ty := .int) (by decide) rfl rfl (g := (mkF m 75 #[.val (.ref a), .val (.int d), .val (.int ((0 : Int32) + (1 : Int32))), .val (.int ((((0 : Int32) + (1 : Int32)) + (1 : Int32)) + (1 : Int32)))] [(.int ((0 : Int32) + (1 : Int32))), (.ref a)])) rfl rfl (hb hby d11_75)
        have N21 := Fr.snoc X21 N19 ga
        have o_E_21 := o_E_19.wr W21
        have o_from_21 := o_from_19.other W21 (Or.inr (slot_ne (t := (.array .long)) (t' := .int) (Or.inl (hw _ (List.mem_of_getElem? (i := 11) rfl))) (Or.inl (hw _ (List.mem_of_getElem? (i := 49) rfl))) (by decide) (by decide) (by decide)))
        have o_lead_21 := o_lead_19.other W21 (Or.inr (slot_ne (t := (.array .long)) (t' := .int) (Or.inl (hw _ (List.mem_of_getElem? (i := 13) rfl))) (Or.inl (hw _ (List.mem_of_getElem? (i := 49) rfl))) (by decide) (by decide) (by decide)))
        have o_member_21 := o_member_19.other W21 (Or.inr (slot_ne (t := (.array .int)) (t' := .int) (Or.inl (hw _ (List.mem_of_getElem? (i := 16) rfl))) (Or.inl (hw _ (List.mem_of_getElem? (i := 49) rfl))) (by decide) (by decide) (by decide)))
        have o_start_21 := o_start_19.other W21 (Or.inr (slot_ne (t := .int) (t' := .int) (Or.inl (hw _ (List.mem_of_getElem? (i := 55) rfl))) (Or.inl (hw _ (List.mem_of_getElem? (i := 49) rfl))) (by decide) (by decide) (by decide)))
        have o_end_21 := o_end_19.same W21
        have f_A_21 := f_A_19.other W21 (Ne.symm ne_a_ff)
        have l_A_21 := l_A_19.other W21 (Ne.symm ne_a_ll)
        have k_A_21 := A19.other W21 (Ne.symm ne_a_kk)
        have K21 := K19.wr W21 (Or.inl (List.mem_of_getElem? (i := 0) rfl))
        refine own_go st21 ?_
        show own_Go p e below _ (T21.setTop (mkF m 78 #[.val (.ref a), .val (.int d), .val (.int ((0 : Int32) + (1 : Int32))), .val (.int ((((0 : Int32) + (1 : Int32)) + (1 : Int32)) + (1 : Int32)))] []))
        have ek : own_keep d [(f0, u0, k0), (f1, u1, k1), (f2, u2, k2)] = [(f2, u2, k2)] := by simp [own_keep, hk0, hk1, hk2]
        rw [ek]
        have own_en0 : own_En fs ls ks [] := fun i e q => by cases i <;> simp at q
        exact own_vret X21 hx hlk hret (hb hby d11_78) (by decide) (by decide) (by rw [e21]; exact ⟨rfl, N21, K21, _, _, _, ⟨⟨o_E_21, f_A_21, l_A_21, k_A_21⟩, ⟨o_from_21, o_lead_21, o_member_21, o_start_21, o_end_21⟩, ⟨ne_a_ff, ne_a_ll, ne_a_kk, ne_ff_ll, ne_ff_kk, ne_ll_kk⟩⟩, (own_en0.set 0 rfl (by simp [lf]) (by simp [lL]) (by simp [lk]) (f2, u2, k2)), by simp [lf], by simp [lL], by simp [lk]⟩)
    · skip
      refine own_go (fun _ => XS.icmpNo X6.here hx rfl (hb hby d11_25) rfl (XT.ii_eq_f hk1)) ?_
      refine own_go (fun _ => XS.aloadN X6.here hx rfl (hb hby d11_28) rfl rfl) ?_
      obtain ⟨T22, X22, e22, st22⟩ := getF X6 hx hZ hown (host := "") (Or.inl (hw _ (List.mem_of_getElem? (i := 10) rfl))) Via.refl e6 o_from0 (g := (mkF m 29 #[.val (.ref a), .val (.int d), .val (.int (0 : Int32)), .val (.int ((0 : Int32) + (1 : Int32)))] [(.ref a)])) rfl rfl (hb hby d11_29)
      refine own_go st22 ?_
      refine own_go (fun _ => XS.iloadN X22.here hx rfl (hb hby d11_32) rfl) ?_
      show own_Go p e below _ (T22.setTop (mkF m 33 #[.val (.ref a), .val (.int d), .val (.int (0 : Int32)), .val (.int ((0 : Int32) + (1 : Int32)))] [(.int (0 : Int32)), (.ref ff)]))
      refine own_go (fun _ => XS.aloadN X22.here hx rfl (hb hby d11_33) rfl rfl) ?_
      obtain ⟨T23, X23, e23, st23⟩ := getF X22 hx hZ hown (host := "") (Or.inl (hw _ (List.mem_of_getElem? (i := 10) rfl))) Via.refl e22 o_from0 (g := (mkF m 34 #[.val (.ref a), .val (.int d), .val (.int (0 : Int32)), .val (.int ((0 : Int32) + (1 : Int32)))] [(.ref a), (.int (0 : Int32)), (.ref ff)])) rfl rfl (hb hby d11_34)
      refine own_go st23 ?_
      refine own_go (fun _ => XS.iloadN X23.here hx rfl (hb hby d11_37) rfl) ?_
      refine own_go (own_ldJ X23 hx hZ e23 f_A0 (g := (mkF m 38 #[.val (.ref a), .val (.int d), .val (.int (0 : Int32)), .val (.int ((0 : Int32) + (1 : Int32)))] [(.int ((0 : Int32) + (1 : Int32))), (.ref ff), (.int (0 : Int32)), (.ref ff)])) rfl rfl (hb hby d11_38) 1 (by decide) (x := (.long f1)) vf1) ?_
      show own_Go p e below _ (T23.setTop (mkF m 39 #[.val (.ref a), .val (.int d), .val (.int (0 : Int32)), .val (.int ((0 : Int32) + (1 : Int32)))] [(.long f1), (.int (0 : Int32)), (.ref ff)]))
      obtain ⟨T24, h24, X24, e24, W24, A24, st24⟩ := own_stJ X23 hx hZ e23 f_A0 (g := (mkF m 39 #[.val (.ref a), .val (.int d), .val (.int (0 : Int32)), .val (.int ((0 : Int32) + (1 : Int32)))] [(.long f1), (.int (0 : Int32)), (.ref ff)])) rfl rfl (hb hby d11_39) 0 (by decide) (by simp [lf])
      have N24 := Fr.snoc X24 N0 gf
      have o_E_24 := o_E0.wr W24
      have o_from_24 := o_from0.other W24 (Or.inl ne_a_ff)
      have o_lead_24 := o_lead0.other W24 (Or.inl ne_a_ff)
      have o_member_24 := o_member0.other W24 (Or.inl ne_a_ff)
      have o_start_24 := o_start0.other W24 (Or.inl ne_a_ff)
      have o_end_24 := o_end0.other W24 (Or.inl ne_a_ff)
      have l_A_24 := l_A0.other W24 (Ne.symm ne_ff_ll)
      have k_A_24 := k_A0.other W24 (Ne.symm ne_ff_kk)
      have K24 := K0.wr W24 (Or.inl (List.mem_of_getElem? (i := 1) rfl))
      refine own_go st24 ?_
      refine own_go (fun _ => XS.aloadN X24.here hx rfl (hb hby d11_40) rfl rfl) ?_
      obtain ⟨T25, X25, e25, st25⟩ := getF X24 hx hZ hown (host := "") (Or.inl (hw _ (List.mem_of_getElem? (i := 12) rfl))) Via.refl e24 o_lead_24 (g := (mkF m 41 #[.val (.ref a), .val (.int d), .val (.int (0 : Int32)), .val (.int ((0 : Int32) + (1 : Int32)))] [(.ref a)])) rfl rfl (hb hby d11_41)
      refine own_go st25 ?_
      refine own_go (fun _ => XS.iloadN X25.here hx rfl (hb hby d11_44) rfl) ?_
      show own_Go p e below _ (T25.setTop (mkF m 45 #[.val (.ref a), .val (.int d), .val (.int (0 : Int32)), .val (.int ((0 : Int32) + (1 : Int32)))] [(.int (0 : Int32)), (.ref ll)]))
      refine own_go (fun _ => XS.aloadN X25.here hx rfl (hb hby d11_45) rfl rfl) ?_
      obtain ⟨T26, X26, e26, st26⟩ := getF X25 hx hZ hown (host := "") (Or.inl (hw _ (List.mem_of_getElem? (i := 12) rfl))) Via.refl e25 o_lead_24 (g := (mkF m 46 #[.val (.ref a), .val (.int d), .val (.int (0 : Int32)), .val (.int ((0 : Int32) + (1 : Int32)))] [(.ref a), (.int (0 : Int32)), (.ref ll)])) rfl rfl (hb hby d11_46)
      refine own_go st26 ?_
      refine own_go (fun _ => XS.iloadN X26.here hx rfl (hb hby d11_49) rfl) ?_
      refine own_go (own_ldJ X26 hx hZ e26 l_A_24 (g := (mkF m 50 #[.val (.ref a), .val (.int d), .val (.int (0 : Int32)), .val (.int ((0 : Int32) + (1 : Int32)))] [(.int ((0 : Int32) + (1 : Int32))), (.ref ll), (.int (0 : Int32)), (.ref ll)])) rfl rfl (hb hby d11_50) 1 (by decide) (x := (.long u1)) vl1) ?_
      show own_Go p e below _ (T26.setTop (mkF m 51 #[.val (.ref a), .val (.int d), .val (.int (0 : Int32)), .val (.int ((0 : Int32) + (1 : Int32)))] [(.long u1), (.int (0 : Int32)), (.ref ll)]))
      obtain ⟨T27, h27, X27, e27, W27, A27, st27⟩ := own_stJ X26 hx hZ e26 l_A_24 (g := (mkF m 51 #[.val (.ref a), .val (.int d), .val (.int (0 : Int32)), .val (.int ((0 : Int32) + (1 : Int32)))] [(.long u1), (.int (0 : Int32)), (.ref ll)])) rfl rfl (hb hby d11_51) 0 (by decide) (by simp [lL])
      have N27 := Fr.snoc X27 N24 gl
      have o_E_27 := o_E_24.wr W27
      have o_from_27 := o_from_24.other W27 (Or.inl ne_a_ll)
      have o_lead_27 := o_lead_24.other W27 (Or.inl ne_a_ll)
      have o_member_27 := o_member_24.other W27 (Or.inl ne_a_ll)
      have o_start_27 := o_start_24.other W27 (Or.inl ne_a_ll)
      have o_end_27 := o_end_24.other W27 (Or.inl ne_a_ll)
      have f_A_27 := A24.other W27 ne_ff_ll
      have k_A_27 := k_A_24.other W27 (Ne.symm ne_ll_kk)
      have K27 := K24.wr W27 (Or.inl (List.mem_of_getElem? (i := 2) rfl))
      refine own_go st27 ?_
      refine own_go (fun _ => XS.aloadN X27.here hx rfl (hb hby d11_52) rfl rfl) ?_
      obtain ⟨T28, X28, e28, st28⟩ := getF X27 hx hZ hown (host := "") (Or.inl (hw _ (List.mem_of_getElem? (i := 15) rfl))) Via.refl e27 o_member_27 (g := (mkF m 53 #[.val (.ref a), .val (.int d), .val (.int (0 : Int32)), .val (.int ((0 : Int32) + (1 : Int32)))] [(.ref a)])) rfl rfl (hb hby d11_53)
      refine own_go st28 ?_
      refine own_go (fun _ => XS.iloadN X28.here hx rfl (hb hby d11_56) rfl) ?_
      show own_Go p e below _ (T28.setTop (mkF m 57 #[.val (.ref a), .val (.int d), .val (.int (0 : Int32)), .val (.int ((0 : Int32) + (1 : Int32)))] [(.int (0 : Int32)), (.ref kk)]))
      refine own_go (fun _ => XS.aloadN X28.here hx rfl (hb hby d11_57) rfl rfl) ?_
      obtain ⟨T29, X29, e29, st29⟩ := getF X28 hx hZ hown (host := "") (Or.inl (hw _ (List.mem_of_getElem? (i := 15) rfl))) Via.refl e28 o_member_27 (g := (mkF m 58 #[.val (.ref a), .val (.int d), .val (.int (0 : Int32)), .val (.int ((0 : Int32) + (1 : Int32)))] [(.ref a), (.int (0 : Int32)), (.ref kk)])) rfl rfl (hb hby d11_58)
      refine own_go st29 ?_
      refine own_go (fun _ => XS.iloadN X29.here hx rfl (hb hby d11_61) rfl) ?_
      refine own_go (own_ldI X29 hx hZ e29 k_A_27 (g := (mkF m 62 #[.val (.ref a), .val (.int d), .val (.int (0 : Int32)), .val (.int ((0 : Int32) + (1 : Int32)))] [(.int ((0 : Int32) + (1 : Int32))), (.ref kk), (.int (0 : Int32)), (.ref kk)])) rfl rfl (hb hby d11_62) 1 (by decide) (x := (.int k1)) vk1) ?_
      show own_Go p e below _ (T29.setTop (mkF m 63 #[.val (.ref a), .val (.int d), .val (.int (0 : Int32)), .val (.int ((0 : Int32) + (1 : Int32)))] [(.int k1), (.int (0 : Int32)), (.ref kk)]))
      obtain ⟨T30, h30, X30, e30, W30, A30, st30⟩ := own_stI X29 hx hZ e29 k_A_27 (g := (mkF m 63 #[.val (.ref a), .val (.int d), .val (.int (0 : Int32)), .val (.int ((0 : Int32) + (1 : Int32)))] [(.int k1), (.int (0 : Int32)), (.ref kk)])) rfl rfl (hb hby d11_63) 0 (by decide) (by simp [lk])
      have N30 := Fr.snoc X30 N27 gk
      have o_E_30 := o_E_27.wr W30
      have o_from_30 := o_from_27.other W30 (Or.inl ne_a_kk)
      have o_lead_30 := o_lead_27.other W30 (Or.inl ne_a_kk)
      have o_member_30 := o_member_27.other W30 (Or.inl ne_a_kk)
      have o_start_30 := o_start_27.other W30 (Or.inl ne_a_kk)
      have o_end_30 := o_end_27.other W30 (Or.inl ne_a_kk)
      have f_A_30 := f_A_27.other W30 ne_ff_kk
      have l_A_30 := A27.other W30 ne_ll_kk
      have K30 := K27.wr W30 (Or.inl (List.mem_of_getElem? (i := 3) rfl))
      refine own_go st30 ?_
      refine own_go (fun _ => XT.iincV X30.here hx rfl (1 : Int32) (hb hby d11_64) rfl rfl (l' := #[.val (.ref a), .val (.int d), .val (.int ((0 : Int32) + (1 : Int32))), .val (.int ((0 : Int32) + (1 : Int32)))]) rfl) ?_
      refine own_go (fun _ => XT.iincV X30.here hx rfl (1 : Int32) (hb hby d11_67) rfl rfl (l' := #[.val (.ref a), .val (.int d), .val (.int ((0 : Int32) + (1 : Int32))), .val (.int (((0 : Int32) + (1 : Int32)) + (1 : Int32)))]) rfl) ?_
      refine own_go (fun _ => XS.goto X30.here hx rfl (pc0 := 70) (pc' := 10) rfl (hb hby d11_70) (by decide) (by decide)) ?_
      show own_Go p e below _ (T30.setTop (mkF m 10 #[.val (.ref a), .val (.int d), .val (.int ((0 : Int32) + (1 : Int32))), .val (.int (((0 : Int32) + (1 : Int32)) + (1 : Int32)))] []))
      refine own_go (fun _ => XS.iloadN X30.here hx rfl (hb hby d11_10) rfl) ?_
      refine own_go (fun _ => XS.aloadN X30.here hx rfl (hb hby d11_11) rfl rfl) ?_
      obtain ⟨T31, X31, e31, st31⟩ := getF X30 hx hZ hown (host := "") (Or.inl (hw _ (List.mem_of_getElem? (i := 48) rfl))) Via.refl e30 o_end_30 (g := (mkF m 12 #[.val (.ref a), .val (.int d), .val (.int ((0 : Int32) + (1 : Int32))), .val (.int (((0 : Int32) + (1 : Int32)) + (1 : Int32)))] [(.ref a), (.int (((0 : Int32) + (1 : Int32)) + (1 : Int32)))])) rfl rfl (hb hby d11_12)
      refine own_go st31 ?_
      refine own_go (fun _ => XS.icmpNo X31.here hx rfl (hb hby d11_15) rfl (XT.ii_ge_f (by decide))) ?_
      show own_Go p e below _ (T31.setTop (mkF m 18 #[.val (.ref a), .val (.int d), .val (.int ((0 : Int32) + (1 : Int32))), .val (.int (((0 : Int32) + (1 : Int32)) + (1 : Int32)))] []))
      refine own_go (fun _ => XS.aloadN X31.here hx rfl (hb hby d11_18) rfl rfl) ?_
      obtain ⟨T32, X32, e32, st32⟩ := getF X31 hx hZ hown (host := "") (Or.inl (hw _ (List.mem_of_getElem? (i := 15) rfl))) Via.refl e31 o_member_30 (g := (mkF m 19 #[.val (.ref a), .val (.int d), .val (.int ((0 : Int32) + (1 : Int32))), .val (.int (((0 : Int32) + (1 : Int32)) + (1 : Int32)))] [(.ref a)])) rfl rfl (hb hby d11_19)
      refine own_go st32 ?_
      refine own_go (fun _ => XS.iloadN X32.here hx rfl (hb hby d11_22) rfl) ?_
      refine own_go (own_ldI X32 hx hZ e32 A30 (g := (mkF m 23 #[.val (.ref a), .val (.int d), .val (.int ((0 : Int32) + (1 : Int32))), .val (.int (((0 : Int32) + (1 : Int32)) + (1 : Int32)))] [(.int (((0 : Int32) + (1 : Int32)) + (1 : Int32))), (.ref kk)])) rfl rfl (hb hby d11_23) 2 (by decide) (x := (.int k2)) (by rw [List.getElem?_set_ne (by decide)]; exact vk2)) ?_
      show own_Go p e below _ (T32.setTop (mkF m 24 #[.val (.ref a), .val (.int d), .val (.int ((0 : Int32) + (1 : Int32))), .val (.int (((0 : Int32) + (1 : Int32)) + (1 : Int32)))] [(.int k2)]))
      refine own_go (fun _ => XS.iloadN X32.here hx rfl (hb hby d11_24) rfl) ?_
      by_cases hk2 : k2 = d
      · skip
        refine own_go (fun _ => XS.icmpYes X32.here hx rfl (pc0 := 25) (pc' := 67) rfl (hb hby d11_25) rfl (XT.ii_eq_t hk2) (by decide) (by decide)) ?_
        refine own_go (fun _ => XT.iincV X32.here hx rfl (1 : Int32) (hb hby d11_67) rfl rfl (l' := #[.val (.ref a), .val (.int d), .val (.int ((0 : Int32) + (1 : Int32))), .val (.int ((((0 : Int32) + (1 : Int32)) + (1 : Int32)) + (1 : Int32)))]) rfl) ?_
        refine own_go (fun _ => XS.goto X32.here hx rfl (pc0 := 70) (pc' := 10) rfl (hb hby d11_70) (by decide) (by decide)) ?_
        show own_Go p e below _ (T32.setTop (mkF m 10 #[.val (.ref a), .val (.int d), .val (.int ((0 : Int32) + (1 : Int32))), .val (.int ((((0 : Int32) + (1 : Int32)) + (1 : Int32)) + (1 : Int32)))] []))
        refine own_go (fun _ => XS.iloadN X32.here hx rfl (hb hby d11_10) rfl) ?_
        refine own_go (fun _ => XS.aloadN X32.here hx rfl (hb hby d11_11) rfl rfl) ?_
        obtain ⟨T33, X33, e33, st33⟩ := getF X32 hx hZ hown (host := "") (Or.inl (hw _ (List.mem_of_getElem? (i := 48) rfl))) Via.refl e32 o_end_30 (g := (mkF m 12 #[.val (.ref a), .val (.int d), .val (.int ((0 : Int32) + (1 : Int32))), .val (.int ((((0 : Int32) + (1 : Int32)) + (1 : Int32)) + (1 : Int32)))] [(.ref a), (.int ((((0 : Int32) + (1 : Int32)) + (1 : Int32)) + (1 : Int32)))])) rfl rfl (hb hby d11_12)
        refine own_go st33 ?_
        refine own_go (fun _ => XS.icmpYes X33.here hx rfl (pc0 := 15) (pc' := 73) rfl (hb hby d11_15) rfl (XT.ii_ge_t (by decide)) (by decide) (by decide)) ?_
        show own_Go p e below _ (T33.setTop (mkF m 73 #[.val (.ref a), .val (.int d), .val (.int ((0 : Int32) + (1 : Int32))), .val (.int ((((0 : Int32) + (1 : Int32)) + (1 : Int32)) + (1 : Int32)))] []))
        refine own_go (fun _ => XS.aloadN X33.here hx rfl (hb hby d11_73) rfl rfl) ?_
        refine own_go (fun _ => XS.iloadN X33.here hx rfl (hb hby d11_74) rfl) ?_
        obtain ⟨T34, h34, X34, e34, W34, st34⟩ := putF X33 hx hZ hown (host := "") (Or.inl (hw _ (List.mem_of_getElem? (i := 48) rfl))) Via.refl e33 o_end_30 o_E_30 (Or.inl (hw _ (List.mem_of_getElem? (i := 49) rfl))) (hw _ (List.mem_of_getElem? (i := 1) rfl)) (ty := .int) (by decide) rfl rfl (g := (mkF m 75 #[.val (.ref a), .val (.int d), .val (.int ((0 : Int32) + (1 : Int32))), .val (.int ((((0 : Int32) + (1 : Int32)) + (1 : Int32)) + (1 : Int32)))] [(.int ((0 : Int32) + (1 : Int32))), (.ref a)])) rfl rfl (hb hby d11_75)
        have N34 := Fr.snoc X34 N30 ga
        have o_E_34 := o_E_30.wr W34
        have o_from_34 := o_from_30.other W34 (Or.inr (slot_ne (t := (.array .long)) (t' := .int) (Or.inl (hw _ (List.mem_of_getElem? (i := 11) rfl))) (Or.inl (hw _ (List.mem_of_getElem? (i := 49) rfl))) (by decide) (by decide) (by decide)))
        have o_lead_34 := o_lead_30.other W34 (Or.inr (slot_ne (t := (.array .long)) (t' := .int) (Or.inl (hw _ (List.mem_of_getElem? (i := 13) rfl))) (Or.inl (hw _ (List.mem_of_getElem? (i := 49) rfl))) (by decide) (by decide) (by decide)))
        have o_member_34 := o_member_30.other W34 (Or.inr (slot_ne (t := (.array .int)) (t' := .int) (Or.inl (hw _ (List.mem_of_getElem? (i := 16) rfl))) (Or.inl (hw _ (List.mem_of_getElem? (i := 49) rfl))) (by decide) (by decide) (by decide)))
        have o_start_34 := o_start_30.other W34 (Or.inr (slot_ne (t := .int) (t' := .int) (Or.inl (hw _ (List.mem_of_getElem? (i := 55) rfl))) (Or.inl (hw _ (List.mem_of_getElem? (i := 49) rfl))) (by decide) (by decide) (by decide)))
        have o_end_34 := o_end_30.same W34
        have f_A_34 := f_A_30.other W34 (Ne.symm ne_a_ff)
        have l_A_34 := l_A_30.other W34 (Ne.symm ne_a_ll)
        have k_A_34 := A30.other W34 (Ne.symm ne_a_kk)
        have K34 := K30.wr W34 (Or.inl (List.mem_of_getElem? (i := 0) rfl))
        refine own_go st34 ?_
        have ek : own_keep d [(f0, u0, k0), (f1, u1, k1), (f2, u2, k2)] = [(f1, u1, k1)] := by simp [own_keep, hk0, hk1, hk2]
        rw [ek]
        have own_en0 : own_En fs ls ks [] := fun i e q => by cases i <;> simp at q
        exact own_vret X34 hx hlk hret (hb hby d11_78) (by decide) (by decide) (by rw [e34]; exact ⟨rfl, N34, K34, _, _, _, ⟨⟨o_E_34, f_A_34, l_A_34, k_A_34⟩, ⟨o_from_34, o_lead_34, o_member_34, o_start_34, o_end_34⟩, ⟨ne_a_ff, ne_a_ll, ne_a_kk, ne_ff_ll, ne_ff_kk, ne_ll_kk⟩⟩, (own_en0.set 0 rfl (by simp [lf]) (by simp [lL]) (by simp [lk]) (f1, u1, k1)), by simp [lf], by simp [lL], by simp [lk]⟩)
      · skip
        refine own_go (fun _ => XS.icmpNo X32.here hx rfl (hb hby d11_25) rfl (XT.ii_eq_f hk2)) ?_
        show own_Go p e below _ (T32.setTop (mkF m 28 #[.val (.ref a), .val (.int d), .val (.int ((0 : Int32) + (1 : Int32))), .val (.int (((0 : Int32) + (1 : Int32)) + (1 : Int32)))] []))
        refine own_go (fun _ => XS.aloadN X32.here hx rfl (hb hby d11_28) rfl rfl) ?_
        obtain ⟨T35, X35, e35, st35⟩ := getF X32 hx hZ hown (host := "") (Or.inl (hw _ (List.mem_of_getElem? (i := 10) rfl))) Via.refl e32 o_from_30 (g := (mkF m 29 #[.val (.ref a), .val (.int d), .val (.int ((0 : Int32) + (1 : Int32))), .val (.int (((0 : Int32) + (1 : Int32)) + (1 : Int32)))] [(.ref a)])) rfl rfl (hb hby d11_29)
        refine own_go st35 ?_
        refine own_go (fun _ => XS.iloadN X35.here hx rfl (hb hby d11_32) rfl) ?_
        refine own_go (fun _ => XS.aloadN X35.here hx rfl (hb hby d11_33) rfl rfl) ?_
        show own_Go p e below _ (T35.setTop (mkF m 34 #[.val (.ref a), .val (.int d), .val (.int ((0 : Int32) + (1 : Int32))), .val (.int (((0 : Int32) + (1 : Int32)) + (1 : Int32)))] [(.ref a), (.int ((0 : Int32) + (1 : Int32))), (.ref ff)]))
        obtain ⟨T36, X36, e36, st36⟩ := getF X35 hx hZ hown (host := "") (Or.inl (hw _ (List.mem_of_getElem? (i := 10) rfl))) Via.refl e35 o_from_30 (g := (mkF m 34 #[.val (.ref a), .val (.int d), .val (.int ((0 : Int32) + (1 : Int32))), .val (.int (((0 : Int32) + (1 : Int32)) + (1 : Int32)))] [(.ref a), (.int ((0 : Int32) + (1 : Int32))), (.ref ff)])) rfl rfl (hb hby d11_34)
        refine own_go st36 ?_
        refine own_go (fun _ => XS.iloadN X36.here hx rfl (hb hby d11_37) rfl) ?_
        refine own_go (own_ldJ X36 hx hZ e36 f_A_30 (g := (mkF m 38 #[.val (.ref a), .val (.int d), .val (.int ((0 : Int32) + (1 : Int32))), .val (.int (((0 : Int32) + (1 : Int32)) + (1 : Int32)))] [(.int (((0 : Int32) + (1 : Int32)) + (1 : Int32))), (.ref ff), (.int ((0 : Int32) + (1 : Int32))), (.ref ff)])) rfl rfl (hb hby d11_38) 2 (by decide) (x := (.long f2)) (by rw [List.getElem?_set_ne (by decide)]; exact vf2)) ?_
        obtain ⟨T37, h37, X37, e37, W37, A37, st37⟩ := own_stJ X36 hx hZ e36 f_A_30 (g := (mkF m 39 #[.val (.ref a), .val (.int d), .val (.int ((0 : Int32) + (1 : Int32))), .val (.int (((0 : Int32) + (1 : Int32)) + (1 : Int32)))] [(.long f2), (.int ((0 : Int32) + (1 : Int32))), (.ref ff)])) rfl rfl (hb hby d11_39) 1 (by decide) (by simp [lf])
        have N37 := Fr.snoc X37 N30 gf
        have o_E_37 := o_E_30.wr W37
        have o_from_37 := o_from_30.other W37 (Or.inl ne_a_ff)
        have o_lead_37 := o_lead_30.other W37 (Or.inl ne_a_ff)
        have o_member_37 := o_member_30.other W37 (Or.inl ne_a_ff)
        have o_start_37 := o_start_30.other W37 (Or.inl ne_a_ff)
        have o_end_37 := o_end_30.other W37 (Or.inl ne_a_ff)
        have l_A_37 := l_A_30.other W37 (Ne.symm ne_ff_ll)
        have k_A_37 := A30.other W37 (Ne.symm ne_ff_kk)
        have K37 := K30.wr W37 (Or.inl (List.mem_of_getElem? (i := 1) rfl))
        refine own_go st37 ?_
        show own_Go p e below _ (T37.setTop (mkF m 40 #[.val (.ref a), .val (.int d), .val (.int ((0 : Int32) + (1 : Int32))), .val (.int (((0 : Int32) + (1 : Int32)) + (1 : Int32)))] []))
        refine own_go (fun _ => XS.aloadN X37.here hx rfl (hb hby d11_40) rfl rfl) ?_
        obtain ⟨T38, X38, e38, st38⟩ := getF X37 hx hZ hown (host := "") (Or.inl (hw _ (List.mem_of_getElem? (i := 12) rfl))) Via.refl e37 o_lead_37 (g := (mkF m 41 #[.val (.ref a), .val (.int d), .val (.int ((0 : Int32) + (1 : Int32))), .val (.int (((0 : Int32) + (1 : Int32)) + (1 : Int32)))] [(.ref a)])) rfl rfl (hb hby d11_41)
        refine own_go st38 ?_
        refine own_go (fun _ => XS.iloadN X38.here hx rfl (hb hby d11_44) rfl) ?_
        refine own_go (fun _ => XS.aloadN X38.here hx rfl (hb hby d11_45) rfl rfl) ?_
        show own_Go p e below _ (T38.setTop (mkF m 46 #[.val (.ref a), .val (.int d), .val (.int ((0 : Int32) + (1 : Int32))), .val (.int (((0 : Int32) + (1 : Int32)) + (1 : Int32)))] [(.ref a), (.int ((0 : Int32) + (1 : Int32))), (.ref ll)]))
        obtain ⟨T39, X39, e39, st39⟩ := getF X38 hx hZ hown (host := "") (Or.inl (hw _ (List.mem_of_getElem? (i := 12) rfl))) Via.refl e38 o_lead_37 (g := (mkF m 46 #[.val (.ref a), .val (.int d), .val (.int ((0 : Int32) + (1 : Int32))), .val (.int (((0 : Int32) + (1 : Int32)) + (1 : Int32)))] [(.ref a), (.int ((0 : Int32) + (1 : Int32))), (.ref ll)])) rfl rfl (hb hby d11_46)
        refine own_go st39 ?_
        refine own_go (fun _ => XS.iloadN X39.here hx rfl (hb hby d11_49) rfl) ?_
        refine own_go (own_ldJ X39 hx hZ e39 l_A_37 (g := (mkF m 50 #[.val (.ref a), .val (.int d), .val (.int ((0 : Int32) + (1 : Int32))), .val (.int (((0 : Int32) + (1 : Int32)) + (1 : Int32)))] [(.int (((0 : Int32) + (1 : Int32)) + (1 : Int32))), (.ref ll), (.int ((0 : Int32) + (1 : Int32))), (.ref ll)])) rfl rfl (hb hby d11_50) 2 (by decide) (x := (.long u2)) (by rw [List.getElem?_set_ne (by decide)]; exact vl2)) ?_
        obtain ⟨T40, h40, X40, e40, W40, A40, st40⟩ := own_stJ X39 hx hZ e39 l_A_37 (g := (mkF m 51 #[.val (.ref a), .val (.int d), .val (.int ((0 : Int32) + (1 : Int32))), .val (.int (((0 : Int32) + (1 : Int32)) + (1 : Int32)))] [(.long u2), (.int ((0 : Int32) + (1 : Int32))), (.ref ll)])) rfl rfl (hb hby d11_51) 1 (by decide) (by simp [lL])
        have N40 := Fr.snoc X40 N37 gl
        have o_E_40 := o_E_37.wr W40
        have o_from_40 := o_from_37.other W40 (Or.inl ne_a_ll)
        have o_lead_40 := o_lead_37.other W40 (Or.inl ne_a_ll)
        have o_member_40 := o_member_37.other W40 (Or.inl ne_a_ll)
        have o_start_40 := o_start_37.other W40 (Or.inl ne_a_ll)
        have o_end_40 := o_end_37.other W40 (Or.inl ne_a_ll)
        have f_A_40 := A37.other W40 ne_ff_ll
        have k_A_40 := k_A_37.other W40 (Ne.symm ne_ll_kk)
        have K40 := K37.wr W40 (Or.inl (List.mem_of_getElem? (i := 2) rfl))
        refine own_go st40 ?_
        show own_Go p e below _ (T40.setTop (mkF m 52 #[.val (.ref a), .val (.int d), .val (.int ((0 : Int32) + (1 : Int32))), .val (.int (((0 : Int32) + (1 : Int32)) + (1 : Int32)))] []))
        refine own_go (fun _ => XS.aloadN X40.here hx rfl (hb hby d11_52) rfl rfl) ?_
        obtain ⟨T41, X41, e41, st41⟩ := getF X40 hx hZ hown (host := "") (Or.inl (hw _ (List.mem_of_getElem? (i := 15) rfl))) Via.refl e40 o_member_40 (g := (mkF m 53 #[.val (.ref a), .val (.int d), .val (.int ((0 : Int32) + (1 : Int32))), .val (.int (((0 : Int32) + (1 : Int32)) + (1 : Int32)))] [(.ref a)])) rfl rfl (hb hby d11_53)
        refine own_go st41 ?_
        refine own_go (fun _ => XS.iloadN X41.here hx rfl (hb hby d11_56) rfl) ?_
        refine own_go (fun _ => XS.aloadN X41.here hx rfl (hb hby d11_57) rfl rfl) ?_
        show own_Go p e below _ (T41.setTop (mkF m 58 #[.val (.ref a), .val (.int d), .val (.int ((0 : Int32) + (1 : Int32))), .val (.int (((0 : Int32) + (1 : Int32)) + (1 : Int32)))] [(.ref a), (.int ((0 : Int32) + (1 : Int32))), (.ref kk)]))
        obtain ⟨T42, X42, e42, st42⟩ := getF X41 hx hZ hown (host := "") (Or.inl (hw _ (List.mem_of_getElem? (i := 15) rfl))) Via.refl e41 o_member_40 (g := (mkF m 58 #[.val (.ref a), .val (.int d), .val (.int ((0 : Int32) + (1 : Int32))), .val (.int (((0 : Int32) + (1 : Int32)) + (1 : Int32)))] [(.ref a), (.int ((0 : Int32) + (1 : Int32))), (.ref kk)])) rfl rfl (hb hby d11_58)
        refine own_go st42 ?_
        refine own_go (fun _ => XS.iloadN X42.here hx rfl (hb hby d11_61) rfl) ?_
        refine own_go (own_ldI X42 hx hZ e42 k_A_40 (g := (mkF m 62 #[.val (.ref a), .val (.int d), .val (.int ((0 : Int32) + (1 : Int32))), .val (.int (((0 : Int32) + (1 : Int32)) + (1 : Int32)))] [(.int (((0 : Int32) + (1 : Int32)) + (1 : Int32))), (.ref kk), (.int ((0 : Int32) + (1 : Int32))), (.ref kk)])) rfl rfl (hb hby d11_62) 2 (by decide) (x := (.int k2)) (by rw [List.getElem?_set_ne (by decide)]; exact vk2)) ?_
        obtain ⟨T43, h43, X43, e43, W43, A43, st43⟩ := own_stI X42 hx hZ e42 k_A_40 (g := (mkF m 63 #[.val (.ref a), .val (.int d), .val (.int ((0 : Int32) + (1 : Int32))), .val (.int (((0 : Int32) + (1 : Int32)) + (1 : Int32)))] [(.int k2), (.int ((0 : Int32) + (1 : Int32))), (.ref kk)])) rfl rfl (hb hby d11_63) 1 (by decide) (by simp [lk])
        have N43 := Fr.snoc X43 N40 gk
        have o_E_43 := o_E_40.wr W43
        have o_from_43 := o_from_40.other W43 (Or.inl ne_a_kk)
        have o_lead_43 := o_lead_40.other W43 (Or.inl ne_a_kk)
        have o_member_43 := o_member_40.other W43 (Or.inl ne_a_kk)
        have o_start_43 := o_start_40.other W43 (Or.inl ne_a_kk)
        have o_end_43 := o_end_40.other W43 (Or.inl ne_a_kk)
        have f_A_43 := f_A_40.other W43 ne_ff_kk
        have l_A_43 := A40.other W43 ne_ll_kk
        have K43 := K40.wr W43 (Or.inl (List.mem_of_getElem? (i := 3) rfl))
        refine own_go st43 ?_
        show own_Go p e below _ (T43.setTop (mkF m 64 #[.val (.ref a), .val (.int d), .val (.int ((0 : Int32) + (1 : Int32))), .val (.int (((0 : Int32) + (1 : Int32)) + (1 : Int32)))] []))
        refine own_go (fun _ => XT.iincV X43.here hx rfl (1 : Int32) (hb hby d11_64) rfl rfl (l' := #[.val (.ref a), .val (.int d), .val (.int (((0 : Int32) + (1 : Int32)) + (1 : Int32))), .val (.int (((0 : Int32) + (1 : Int32)) + (1 : Int32)))]) rfl) ?_
        refine own_go (fun _ => XT.iincV X43.here hx rfl (1 : Int32) (hb hby d11_67) rfl rfl (l' := #[.val (.ref a), .val (.int d), .val (.int (((0 : Int32) + (1 : Int32)) + (1 : Int32))), .val (.int ((((0 : Int32) + (1 : Int32)) + (1 : Int32)) + (1 : Int32)))]) rfl) ?_
        refine own_go (fun _ => XS.goto X43.here hx rfl (pc0 := 70) (pc' := 10) rfl (hb hby d11_70) (by decide) (by decide)) ?_
        refine own_go (fun _ => XS.iloadN X43.here hx rfl (hb hby d11_10) rfl) ?_
        show own_Go p e below _ (T43.setTop (mkF m 11 #[.val (.ref a), .val (.int d), .val (.int (((0 : Int32) + (1 : Int32)) + (1 : Int32))), .val (.int ((((0 : Int32) + (1 : Int32)) + (1 : Int32)) + (1 : Int32)))] [(.int ((((0 : Int32) + (1 : Int32)) + (1 : Int32)) + (1 : Int32)))]))
        refine own_go (fun _ => XS.aloadN X43.here hx rfl (hb hby d11_11) rfl rfl) ?_
        obtain ⟨T44, X44, e44, st44⟩ := getF X43 hx hZ hown (host := "") (Or.inl (hw _ (List.mem_of_getElem? (i := 48) rfl))) Via.refl e43 o_end_43 (g := (mkF m 12 #[.val (.ref a), .val (.int d), .val (.int (((0 : Int32) + (1 : Int32)) + (1 : Int32))), .val (.int ((((0 : Int32) + (1 : Int32)) + (1 : Int32)) + (1 : Int32)))] [(.ref a), (.int ((((0 : Int32) + (1 : Int32)) + (1 : Int32)) + (1 : Int32)))])) rfl rfl (hb hby d11_12)
        refine own_go st44 ?_
        refine own_go (fun _ => XS.icmpYes X44.here hx rfl (pc0 := 15) (pc' := 73) rfl (hb hby d11_15) rfl (XT.ii_ge_t (by decide)) (by decide) (by decide)) ?_
        refine own_go (fun _ => XS.aloadN X44.here hx rfl (hb hby d11_73) rfl rfl) ?_
        show own_Go p e below _ (T44.setTop (mkF m 74 #[.val (.ref a), .val (.int d), .val (.int (((0 : Int32) + (1 : Int32)) + (1 : Int32))), .val (.int ((((0 : Int32) + (1 : Int32)) + (1 : Int32)) + (1 : Int32)))] [(.ref a)]))
        refine own_go (fun _ => XS.iloadN X44.here hx rfl (hb hby d11_74) rfl) ?_
        obtain ⟨T45, h45, X45, e45, W45, st45⟩ := putF X44 hx hZ hown (host := "") (Or.inl (hw _ (List.mem_of_getElem? (i := 48) rfl))) Via.refl e44 o_end_43 o_E_43 (Or.inl (hw _ (List.mem_of_getElem? (i := 49) rfl))) (hw _ (List.mem_of_getElem? (i := 1) rfl)) (ty := .int) (by decide) rfl rfl (g := (mkF m 75 #[.val (.ref a), .val (.int d), .val (.int (((0 : Int32) + (1 : Int32)) + (1 : Int32))), .val (.int ((((0 : Int32) + (1 : Int32)) + (1 : Int32)) + (1 : Int32)))] [(.int (((0 : Int32) + (1 : Int32)) + (1 : Int32))), (.ref a)])) rfl rfl (hb hby d11_75)
        have N45 := Fr.snoc X45 N43 ga
        have o_E_45 := o_E_43.wr W45
        have o_from_45 := o_from_43.other W45 (Or.inr (slot_ne (t := (.array .long)) (t' := .int) (Or.inl (hw _ (List.mem_of_getElem? (i := 11) rfl))) (Or.inl (hw _ (List.mem_of_getElem? (i := 49) rfl))) (by decide) (by decide) (by decide)))
        have o_lead_45 := o_lead_43.other W45 (Or.inr (slot_ne (t := (.array .long)) (t' := .int) (Or.inl (hw _ (List.mem_of_getElem? (i := 13) rfl))) (Or.inl (hw _ (List.mem_of_getElem? (i := 49) rfl))) (by decide) (by decide) (by decide)))
        have o_member_45 := o_member_43.other W45 (Or.inr (slot_ne (t := (.array .int)) (t' := .int) (Or.inl (hw _ (List.mem_of_getElem? (i := 16) rfl))) (Or.inl (hw _ (List.mem_of_getElem? (i := 49) rfl))) (by decide) (by decide) (by decide)))
        have o_start_45 := o_start_43.other W45 (Or.inr (slot_ne (t := .int) (t' := .int) (Or.inl (hw _ (List.mem_of_getElem? (i := 55) rfl))) (Or.inl (hw _ (List.mem_of_getElem? (i := 49) rfl))) (by decide) (by decide) (by decide)))
        have o_end_45 := o_end_43.same W45
        have f_A_45 := f_A_43.other W45 (Ne.symm ne_a_ff)
        have l_A_45 := l_A_43.other W45 (Ne.symm ne_a_ll)
        have k_A_45 := A43.other W45 (Ne.symm ne_a_kk)
        have K45 := K43.wr W45 (Or.inl (List.mem_of_getElem? (i := 0) rfl))
        refine own_go st45 ?_
        have ek : own_keep d [(f0, u0, k0), (f1, u1, k1), (f2, u2, k2)] = [(f1, u1, k1), (f2, u2, k2)] := by simp [own_keep, hk0, hk1, hk2]
        rw [ek]
        have own_en0 : own_En fs ls ks [] := fun i e q => by cases i <;> simp at q
        exact own_vret X45 hx hlk hret (hb hby d11_78) (by decide) (by decide) (by rw [e45]; exact ⟨rfl, N45, K45, _, _, _, ⟨⟨o_E_45, f_A_45, l_A_45, k_A_45⟩, ⟨o_from_45, o_lead_45, o_member_45, o_start_45, o_end_45⟩, ⟨ne_a_ff, ne_a_ll, ne_a_kk, ne_ff_ll, ne_ff_kk, ne_ll_kk⟩⟩, ((own_en0.set 0 rfl (by simp [lf]) (by simp [lL]) (by simp [lk]) (f1, u1, k1)).set 1 rfl (by simp [lf]) (by simp [lL]) (by simp [lk]) (f2, u2, k2)), by simp [lf], by simp [lL], by simp [lk]⟩)
  · skip
    refine own_go (fun _ => XS.icmpNo X4.here hx rfl (hb hby d11_25) rfl (XT.ii_eq_f hk0)) ?_
    refine own_go (fun _ => XS.aloadN X4.here hx rfl (hb hby d11_28) rfl rfl) ?_
    show own_Go p e below _ (T4.setTop (mkF m 29 #[.val (.ref a), .val (.int d), .val (.int (0 : Int32)), .val (.int (0 : Int32))] [(.ref a)]))
    obtain ⟨T46, X46, e46, st46⟩ := getF X4 hx hZ hown (host := "") (Or.inl (hw _ (List.mem_of_getElem? (i := 10) rfl))) Via.refl e4 o_from0 (g := (mkF m 29 #[.val (.ref a), .val (.int d), .val (.int (0 : Int32)), .val (.int (0 : Int32))] [(.ref a)])) rfl rfl (hb hby d11_29)
    refine own_go st46 ?_
    refine own_go (fun _ => XS.iloadN X46.here hx rfl (hb hby d11_32) rfl) ?_
    refine own_go (fun _ => XS.aloadN X46.here hx rfl (hb hby d11_33) rfl rfl) ?_
    obtain ⟨T47, X47, e47, st47⟩ := getF X46 hx hZ hown (host := "") (Or.inl (hw _ (List.mem_of_getElem? (i := 10) rfl))) Via.refl e46 o_from0 (g := (mkF m 34 #[.val (.ref a), .val (.int d), .val (.int (0 : Int32)), .val (.int (0 : Int32))] [(.ref a), (.int (0 : Int32)), (.ref ff)])) rfl rfl (hb hby d11_34)
    refine own_go st47 ?_
    show own_Go p e below _ (T47.setTop (mkF m 37 #[.val (.ref a), .val (.int d), .val (.int (0 : Int32)), .val (.int (0 : Int32))] [(.ref ff), (.int (0 : Int32)), (.ref ff)]))
    refine own_go (fun _ => XS.iloadN X47.here hx rfl (hb hby d11_37) rfl) ?_
    refine own_go (own_ldJ X47 hx hZ e47 f_A0 (g := (mkF m 38 #[.val (.ref a), .val (.int d), .val (.int (0 : Int32)), .val (.int (0 : Int32))] [(.int (0 : Int32)), (.ref ff), (.int (0 : Int32)), (.ref ff)])) rfl rfl (hb hby d11_38) 0 (by decide) (x := (.long f0)) vf0) ?_
    obtain ⟨T48, h48, X48, e48, W48, A48, st48⟩ := own_stJ X47 hx hZ e47 f_A0 (g := (mkF m 39 #[.val (.ref a), .val (.int d), .val (.int (0 : Int32)), .val (.int (0 : Int32))] [(.long f0), (.int (0 : Int32)), (.ref ff)])) rfl rfl (hb hby d11_39) 0 (by decide) (by simp [lf])
    have N48 := Fr.snoc X48 N0 gf
    have o_E_48 := o_E0.wr W48
    have o_from_48 := o_from0.other W48 (Or.inl ne_a_ff)
    have o_lead_48 := o_lead0.other W48 (Or.inl ne_a_ff)
    have o_member_48 := o_member0.other W48 (Or.inl ne_a_ff)
    have o_start_48 := o_start0.other W48 (Or.inl ne_a_ff)
    have o_end_48 := o_end0.other W48 (Or.inl ne_a_ff)
    have l_A_48 := l_A0.other W48 (Ne.symm ne_ff_ll)
    have k_A_48 := k_A0.other W48 (Ne.symm ne_ff_kk)
    have K48 := K0.wr W48 (Or.inl (List.mem_of_getElem? (i := 1) rfl))
    refine own_go st48 ?_
    refine own_go (fun _ => XS.aloadN X48.here hx rfl (hb hby d11_40) rfl rfl) ?_
    show own_Go p e below _ (T48.setTop (mkF m 41 #[.val (.ref a), .val (.int d), .val (.int (0 : Int32)), .val (.int (0 : Int32))] [(.ref a)]))
    obtain ⟨T49, X49, e49, st49⟩ := getF X48 hx hZ hown (host := "") (Or.inl (hw _ (List.mem_of_getElem? (i := 12) rfl))) Via.refl e48 o_lead_48 (g := (mkF m 41 #[.val (.ref a), .val (.int d), .val (.int (0 : Int32)), .val (.int (0 : Int32))] [(.ref a)])) rfl rfl (hb hby d11_41)
    refine own_go st49 ?_
    refine own_go (fun _ => XS.iloadN X49.here hx rfl (hb hby d11_44) rfl) ?_
    refine own_go (fun _ => XS.aloadN X49.here hx rfl (hb hby d11_45) rfl rfl) ?_
    obtain ⟨T50, X50, e50, st50⟩ := getF X49 hx hZ hown (host := "") (Or.inl (hw _ (List.mem_of_getElem? (i := 12) rfl))) Via.refl e49 o_lead_48 (g := (mkF m 46 #[.val (.ref a), .val (.int d), .val (.int (0 : Int32)), .val (.int (0 : Int32))] [(.ref a), (.int (0 : Int32)), (.ref ll)])) rfl rfl (hb hby d11_46)
    refine own_go st50 ?_
    show own_Go p e below _ (T50.setTop (mkF m 49 #[.val (.ref a), .val (.int d), .val (.int (0 : Int32)), .val (.int (0 : Int32))] [(.ref ll), (.int (0 : Int32)), (.ref ll)]))
    refine own_go (fun _ => XS.iloadN X50.here hx rfl (hb hby d11_49) rfl) ?_
    refine own_go (own_ldJ X50 hx hZ e50 l_A_48 (g := (mkF m 50 #[.val (.ref a), .val (.int d), .val (.int (0 : Int32)), .val (.int (0 : Int32))] [(.int (0 : Int32)), (.ref ll), (.int (0 : Int32)), (.ref ll)])) rfl rfl (hb hby d11_50) 0 (by decide) (x := (.long u0)) vl0) ?_
    obtain ⟨T51, h51, X51, e51, W51, A51, st51⟩ := own_stJ X50 hx hZ e50 l_A_48 (g := (mkF m 51 #[.val (.ref a), .val (.int d), .val (.int (0 : Int32)), .val (.int (0 : Int32))] [(.long u0), (.int (0 : Int32)), (.ref ll)])) rfl rfl (hb hby d11_51) 0 (by decide) (by simp [lL])
    have N51 := Fr.snoc X51 N48 gl
    have o_E_51 := o_E_48.wr W51
    have o_from_51 := o_from_48.other W51 (Or.inl ne_a_ll)
    have o_lead_51 := o_lead_48.other W51 (Or.inl ne_a_ll)
    have o_member_51 := o_member_48.other W51 (Or.inl ne_a_ll)
    have o_start_51 := o_start_48.other W51 (Or.inl ne_a_ll)
    have o_end_51 := o_end_48.other W51 (Or.inl ne_a_ll)
    have f_A_51 := A48.other W51 ne_ff_ll
    have k_A_51 := k_A_48.other W51 (Ne.symm ne_ll_kk)
    have K51 := K48.wr W51 (Or.inl (List.mem_of_getElem? (i := 2) rfl))
    refine own_go st51 ?_
    refine own_go (fun _ => XS.aloadN X51.here hx rfl (hb hby d11_52) rfl rfl) ?_
    show own_Go p e below _ (T51.setTop (mkF m 53 #[.val (.ref a), .val (.int d), .val (.int (0 : Int32)), .val (.int (0 : Int32))] [(.ref a)]))
    obtain ⟨T52, X52, e52, st52⟩ := getF X51 hx hZ hown (host := "") (Or.inl (hw _ (List.mem_of_getElem? (i := 15) rfl))) Via.refl e51 o_member_51 (g := (mkF m 53 #[.val (.ref a), .val (.int d), .val (.int (0 : Int32)), .val (.int (0 : Int32))] [(.ref a)])) rfl rfl (hb hby d11_53)
    refine own_go st52 ?_
    refine own_go (fun _ => XS.iloadN X52.here hx rfl (hb hby d11_56) rfl) ?_
    refine own_go (fun _ => XS.aloadN X52.here hx rfl (hb hby d11_57) rfl rfl) ?_
    obtain ⟨T53, X53, e53, st53⟩ := getF X52 hx hZ hown (host := "") (Or.inl (hw _ (List.mem_of_getElem? (i := 15) rfl))) Via.refl e52 o_member_51 (g := (mkF m 58 #[.val (.ref a), .val (.int d), .val (.int (0 : Int32)), .val (.int (0 : Int32))] [(.ref a), (.int (0 : Int32)), (.ref kk)])) rfl rfl (hb hby d11_58)
    refine own_go st53 ?_
    show own_Go p e below _ (T53.setTop (mkF m 61 #[.val (.ref a), .val (.int d), .val (.int (0 : Int32)), .val (.int (0 : Int32))] [(.ref kk), (.int (0 : Int32)), (.ref kk)]))
    refine own_go (fun _ => XS.iloadN X53.here hx rfl (hb hby d11_61) rfl) ?_
    refine own_go (own_ldI X53 hx hZ e53 k_A_51 (g := (mkF m 62 #[.val (.ref a), .val (.int d), .val (.int (0 : Int32)), .val (.int (0 : Int32))] [(.int (0 : Int32)), (.ref kk), (.int (0 : Int32)), (.ref kk)])) rfl rfl (hb hby d11_62) 0 (by decide) (x := (.int k0)) vk0) ?_
    obtain ⟨T54, h54, X54, e54, W54, A54, st54⟩ := own_stI X53 hx hZ e53 k_A_51 (g := (mkF m 63 #[.val (.ref a), .val (.int d), .val (.int (0 : Int32)), .val (.int (0 : Int32))] [(.int k0), (.int (0 : Int32)), (.ref kk)])) rfl rfl (hb hby d11_63) 0 (by decide) (by simp [lk])
    have N54 := Fr.snoc X54 N51 gk
    have o_E_54 := o_E_51.wr W54
    have o_from_54 := o_from_51.other W54 (Or.inl ne_a_kk)
    have o_lead_54 := o_lead_51.other W54 (Or.inl ne_a_kk)
    have o_member_54 := o_member_51.other W54 (Or.inl ne_a_kk)
    have o_start_54 := o_start_51.other W54 (Or.inl ne_a_kk)
    have o_end_54 := o_end_51.other W54 (Or.inl ne_a_kk)
    have f_A_54 := f_A_51.other W54 ne_ff_kk
    have l_A_54 := A51.other W54 ne_ll_kk
    have K54 := K51.wr W54 (Or.inl (List.mem_of_getElem? (i := 3) rfl))
    refine own_go st54 ?_
    refine own_go (fun _ => XT.iincV X54.here hx rfl (1 : Int32) (hb hby d11_64) rfl rfl (l' := #[.val (.ref a), .val (.int d), .val (.int ((0 : Int32) + (1 : Int32))), .val (.int (0 : Int32))]) rfl) ?_
    show own_Go p e below _ (T54.setTop (mkF m 67 #[.val (.ref a), .val (.int d), .val (.int ((0 : Int32) + (1 : Int32))), .val (.int (0 : Int32))] []))
    refine own_go (fun _ => XT.iincV X54.here hx rfl (1 : Int32) (hb hby d11_67) rfl rfl (l' := #[.val (.ref a), .val (.int d), .val (.int ((0 : Int32) + (1 : Int32))), .val (.int ((0 : Int32) + (1 : Int32)))]) rfl) ?_
    refine own_go (fun _ => XS.goto X54.here hx rfl (pc0 := 70) (pc' := 10) rfl (hb hby d11_70) (by decide) (by decide)) ?_
    refine own_go (fun _ => XS.iloadN X54.here hx rfl (hb hby d11_10) rfl) ?_
    refine own_go (fun _ => XS.aloadN X54.here hx rfl (hb hby d11_11) rfl rfl) ?_
    show own_Go p e below _ (T54.setTop (mkF m 12 #[.val (.ref a), .val (.int d), .val (.int ((0 : Int32) + (1 : Int32))), .val (.int ((0 : Int32) + (1 : Int32)))] [(.ref a), (.int ((0 : Int32) + (1 : Int32)))]))
    obtain ⟨T55, X55, e55, st55⟩ := getF X54 hx hZ hown (host := "") (Or.inl (hw _ (List.mem_of_getElem? (i := 48) rfl))) Via.refl e54 o_end_54 (g := (mkF m 12 #[.val (.ref a), .val (.int d), .val (.int ((0 : Int32) + (1 : Int32))), .val (.int ((0 : Int32) + (1 : Int32)))] [(.ref a), (.int ((0 : Int32) + (1 : Int32)))])) rfl rfl (hb hby d11_12)
    refine own_go st55 ?_
    refine own_go (fun _ => XS.icmpNo X55.here hx rfl (hb hby d11_15) rfl (XT.ii_ge_f (by decide))) ?_
    refine own_go (fun _ => XS.aloadN X55.here hx rfl (hb hby d11_18) rfl rfl) ?_
    obtain ⟨T56, X56, e56, st56⟩ := getF X55 hx hZ hown (host := "") (Or.inl (hw _ (List.mem_of_getElem? (i := 15) rfl))) Via.refl e55 o_member_54 (g := (mkF m 19 #[.val (.ref a), .val (.int d), .val (.int ((0 : Int32) + (1 : Int32))), .val (.int ((0 : Int32) + (1 : Int32)))] [(.ref a)])) rfl rfl (hb hby d11_19)
    refine own_go st56 ?_
    show own_Go p e below _ (T56.setTop (mkF m 22 #[.val (.ref a), .val (.int d), .val (.int ((0 : Int32) + (1 : Int32))), .val (.int ((0 : Int32) + (1 : Int32)))] [(.ref kk)]))
    refine own_go (fun _ => XS.iloadN X56.here hx rfl (hb hby d11_22) rfl) ?_
    refine own_go (own_ldI X56 hx hZ e56 A54 (g := (mkF m 23 #[.val (.ref a), .val (.int d), .val (.int ((0 : Int32) + (1 : Int32))), .val (.int ((0 : Int32) + (1 : Int32)))] [(.int ((0 : Int32) + (1 : Int32))), (.ref kk)])) rfl rfl (hb hby d11_23) 1 (by decide) (x := (.int k1)) (by rw [List.getElem?_set_ne (by decide)]; exact vk1)) ?_
    refine own_go (fun _ => XS.iloadN X56.here hx rfl (hb hby d11_24) rfl) ?_
    by_cases hk1 : k1 = d
    · skip
      refine own_go (fun _ => XS.icmpYes X56.here hx rfl (pc0 := 25) (pc' := 67) rfl (hb hby d11_25) rfl (XT.ii_eq_t hk1) (by decide) (by decide)) ?_
      show own_Go p e below _ (T56.setTop (mkF m 67 #[.val (.ref a), .val (.int d), .val (.int ((0 : Int32) + (1 : Int32))), .val (.int ((0 : Int32) + (1 : Int32)))] []))
      refine own_go (fun _ => XT.iincV X56.here hx rfl (1 : Int32) (hb hby d11_67) rfl rfl (l' := #[.val (.ref a), .val (.int d), .val (.int ((0 : Int32) + (1 : Int32))), .val (.int (((0 : Int32) + (1 : Int32)) + (1 : Int32)))]) rfl) ?_
      refine own_go (fun _ => XS.goto X56.here hx rfl (pc0 := 70) (pc' := 10) rfl (hb hby d11_70) (by decide) (by decide)) ?_
      refine own_go (fun _ => XS.iloadN X56.here hx rfl (hb hby d11_10) rfl) ?_
      refine own_go (fun _ => XS.aloadN X56.here hx rfl (hb hby d11_11) rfl rfl) ?_
      show own_Go p e below _ (T56.setTop (mkF m 12 #[.val (.ref a), .val (.int d), .val (.int ((0 : Int32) + (1 : Int32))), .val (.int (((0 : Int32) + (1 : Int32)) + (1 : Int32)))] [(.ref a), (.int (((0 : Int32) + (1 : Int32)) + (1 : Int32)))]))
      obtain ⟨T57, X57, e57, st57⟩ := getF X56 hx hZ hown (host := "") (Or.inl (hw _ (List.mem_of_getElem? (i := 48) rfl))) Via.refl e56 o_end_54 (g := (mkF m 12 #[.val (.ref a), .val (.int d), .val (.int ((0 : Int32) + (1 : Int32))), .val (.int (((0 : Int32) + (1 : Int32)) + (1 : Int32)))] [(.ref a), (.int (((0 : Int32) + (1 : Int32)) + (1 : Int32)))])) rfl rfl (hb hby d11_12)
      refine own_go st57 ?_
      refine own_go (fun _ => XS.icmpNo X57.here hx rfl (hb hby d11_15) rfl (XT.ii_ge_f (by decide))) ?_
      refine own_go (fun _ => XS.aloadN X57.here hx rfl (hb hby d11_18) rfl rfl) ?_
      obtain ⟨T58, X58, e58, st58⟩ := getF X57 hx hZ hown (host := "") (Or.inl (hw _ (List.mem_of_getElem? (i := 15) rfl))) Via.refl e57 o_member_54 (g := (mkF m 19 #[.val (.ref a), .val (.int d), .val (.int ((0 : Int32) + (1 : Int32))), .val (.int (((0 : Int32) + (1 : Int32)) + (1 : Int32)))] [(.ref a)])) rfl rfl (hb hby d11_19)
      refine own_go st58 ?_
      show own_Go p e below _ (T58.setTop (mkF m 22 #[.val (.ref a), .val (.int d), .val (.int ((0 : Int32) + (1 : Int32))), .val (.int (((0 : Int32) + (1 : Int32)) + (1 : Int32)))] [(.ref kk)]))
      refine own_go (fun _ => XS.iloadN X58.here hx rfl (hb hby d11_22) rfl) ?_
      refine own_go (own_ldI X58 hx hZ e58 A54 (g := (mkF m 23 #[.val (.ref a), .val (.int d), .val (.int ((0 : Int32) + (1 : Int32))), .val (.int (((0 : Int32) + (1 : Int32)) + (1 : Int32)))] [(.int (((0 : Int32) + (1 : Int32)) + (1 : Int32))), (.ref kk)])) rfl rfl (hb hby d11_23) 2 (by decide) (x := (.int k2)) (by rw [List.getElem?_set_ne (by decide)]; exact vk2)) ?_
      refine own_go (fun _ => XS.iloadN X58.here hx rfl (hb hby d11_24) rfl) ?_
      by_cases hk2 : k2 = d
      · skip
        refine own_go (fun _ => XS.icmpYes X58.here hx rfl (pc0 := 25) (pc' := 67) rfl (hb hby d11_25) rfl (XT.ii_eq_t hk2) (by decide) (by decide)) ?_
        show own_Go p e below _ (T58.setTop (mkF m 67 #[.val (.ref a), .val (.int d), .val (.int ((0 : Int32) + (1 : Int32))), .val (.int (((0 : Int32) + (1 : Int32)) + (1 : Int32)))] []))
        refine own_go (fun _ => XT.iincV X58.here hx rfl (1 : Int32) (hb hby d11_67) rfl rfl (l' := #[.val (.ref a), .val (.int d), .val (.int ((0 : Int32) + (1 : Int32))), .val (.int ((((0 : Int32) + (1 : Int32)) + (1 : Int32)) + (1 : Int32)))]) rfl) ?_
        refine own_go (fun _ => XS.goto X58.here hx rfl (pc0 := 70) (pc' := 10) rfl (hb hby d11_70) (by decide) (by decide)) ?_
        refine own_go (fun _ => XS.iloadN X58.here hx rfl (hb hby d11_10) rfl) ?_
        refine own_go (fun _ => XS.aloadN X58.here hx rfl (hb hby d11_11) rfl rfl) ?_
        show own_Go p e below _ (T58.setTop (mkF m 12 #[.val (.ref a), .val (.int d), .val (.int ((0 : Int32) + (1 : Int32))), .val (.int ((((0 : Int32) + (1 : Int32)) + (1 : Int32)) + (1 : Int32)))] [(.ref a), (.int ((((0 : Int32) + (1 : Int32)) + (1 : Int32)) + (1 : Int32)))]))
        obtain ⟨T59, X59, e59, st59⟩ := getF X58 hx hZ hown (host := "") (Or.inl (hw _ (List.mem_of_getElem? (i := 48) rfl))) Via.refl e58 o_end_54 (g := (mkF m 12 #[.val (.ref a), .val (.int d), .val (.int ((0 : Int32) + (1 : Int32))), .val (.int ((((0 : Int32) + (1 : Int32)) + (1 : Int32)) + (1 : Int32)))] [(.ref a), (.int ((((0 : Int32) + (1 : Int32)) + (1 : Int32)) + (1 : Int32)))])) rfl rfl (hb hby d11_12)
        refine own_go st59 ?_
        refine own_go (fun _ => XS.icmpYes X59.here hx rfl (pc0 := 15) (pc' := 73) rfl (hb hby d11_15) rfl (XT.ii_ge_t (by decide)) (by decide) (by decide)) ?_
        refine own_go (fun _ => XS.aloadN X59.here hx rfl (hb hby d11_73) rfl rfl) ?_
        refine own_go (fun _ => XS.iloadN X59.here hx rfl (hb hby d11_74) rfl) ?_
        show own_Go p e below _ (T59.setTop (mkF m 75 #[.val (.ref a), .val (.int d), .val (.int ((0 : Int32) + (1 : Int32))), .val (.int ((((0 : Int32) + (1 : Int32)) + (1 : Int32)) + (1 : Int32)))] [(.int ((0 : Int32) + (1 : Int32))), (.ref a)]))
        obtain ⟨T60, h60, X60, e60, W60, st60⟩ := putF X59 hx hZ hown (host := "") (Or.inl (hw _ (List.mem_of_getElem? (i := 48) rfl))) Via.refl e59 o_end_54 o_E_54 (Or.inl (hw _ (List.mem_of_getElem? (i := 49) rfl))) (hw _ (List.mem_of_getElem? (i := 1) rfl)) (ty := .int) (by decide) rfl rfl (g := (mkF m 75 #[.val (.ref a), .val (.int d), .val (.int ((0 : Int32) + (1 : Int32))), .val (.int ((((0 : Int32) + (1 : Int32)) + (1 : Int32)) + (1 : Int32)))] [(.int ((0 : Int32) + (1 : Int32))), (.ref a)])) rfl rfl (hb hby d11_75)
        have N60 := Fr.snoc X60 N54 ga
        have o_E_60 := o_E_54.wr W60
        have o_from_60 := o_from_54.other W60 (Or.inr (slot_ne (t := (.array .long)) (t' := .int) (Or.inl (hw _ (List.mem_of_getElem? (i := 11) rfl))) (Or.inl (hw _ (List.mem_of_getElem? (i := 49) rfl))) (by decide) (by decide) (by decide)))
        have o_lead_60 := o_lead_54.other W60 (Or.inr (slot_ne (t := (.array .long)) (t' := .int) (Or.inl (hw _ (List.mem_of_getElem? (i := 13) rfl))) (Or.inl (hw _ (List.mem_of_getElem? (i := 49) rfl))) (by decide) (by decide) (by decide)))
        have o_member_60 := o_member_54.other W60 (Or.inr (slot_ne (t := (.array .int)) (t' := .int) (Or.inl (hw _ (List.mem_of_getElem? (i := 16) rfl))) (Or.inl (hw _ (List.mem_of_getElem? (i := 49) rfl))) (by decide) (by decide) (by decide)))
        have o_start_60 := o_start_54.other W60 (Or.inr (slot_ne (t := .int) (t' := .int) (Or.inl (hw _ (List.mem_of_getElem? (i := 55) rfl))) (Or.inl (hw _ (List.mem_of_getElem? (i := 49) rfl))) (by decide) (by decide) (by decide)))
        have o_end_60 := o_end_54.same W60
        have f_A_60 := f_A_54.other W60 (Ne.symm ne_a_ff)
        have l_A_60 := l_A_54.other W60 (Ne.symm ne_a_ll)
        have k_A_60 := A54.other W60 (Ne.symm ne_a_kk)
        have K60 := K54.wr W60 (Or.inl (List.mem_of_getElem? (i := 0) rfl))
        refine own_go st60 ?_
        have ek : own_keep d [(f0, u0, k0), (f1, u1, k1), (f2, u2, k2)] = [(f0, u0, k0)] := by simp [own_keep, hk0, hk1, hk2]
        rw [ek]
        have own_en0 : own_En fs ls ks [] := fun i e q => by cases i <;> simp at q
        exact own_vret X60 hx hlk hret (hb hby d11_78) (by decide) (by decide) (by rw [e60]; exact ⟨rfl, N60, K60, _, _, _, ⟨⟨o_E_60, f_A_60, l_A_60, k_A_60⟩, ⟨o_from_60, o_lead_60, o_member_60, o_start_60, o_end_60⟩, ⟨ne_a_ff, ne_a_ll, ne_a_kk, ne_ff_ll, ne_ff_kk, ne_ll_kk⟩⟩, (own_en0.set 0 rfl (by simp [lf]) (by simp [lL]) (by simp [lk]) (f0, u0, k0)), by simp [lf], by simp [lL], by simp [lk]⟩)
      · skip
        refine own_go (fun _ => XS.icmpNo X58.here hx rfl (hb hby d11_25) rfl (XT.ii_eq_f hk2)) ?_
        refine own_go (fun _ => XS.aloadN X58.here hx rfl (hb hby d11_28) rfl rfl) ?_
        obtain ⟨T61, X61, e61, st61⟩ := getF X58 hx hZ hown (host := "") (Or.inl (hw _ (List.mem_of_getElem? (i := 10) rfl))) Via.refl e58 o_from_54 (g := (mkF m 29 #[.val (.ref a), .val (.int d), .val (.int ((0 : Int32) + (1 : Int32))), .val (.int (((0 : Int32) + (1 : Int32)) + (1 : Int32)))] [(.ref a)])) rfl rfl (hb hby d11_29)
        refine own_go st61 ?_
        show own_Go p e below _ (T61.setTop (mkF m 32 #[.val (.ref a), .val (.int d), .val (.int ((0 : Int32) + (1 : Int32))), .val (.int (((0 : Int32) + (1 : Int32)) + (1 : Int32)))] [(.ref ff)]))
        refine own_go (fun _ => XS.iloadN X61.here hx rfl (hb hby d11_32) rfl) ?_
        refine own_go (fun _ => XS.aloadN X61.here hx rfl (hb hby d11_33) rfl rfl) ?_
        obtain ⟨T62, X62, e62, st62⟩ := getF X61 hx hZ hown (host := "") (Or.inl (hw _ (List.mem_of_getElem? (i := 10) rfl))) Via.refl e61 o_from_54 (g := (mkF m 34 #[.val (.ref a), .val (.int d), .val (.int ((0 : Int32) + (1 : Int32))), .val (.int (((0 : Int32) + (1 : Int32)) + (1 : Int32)))] [(.ref a), (.int ((0 : Int32) + (1 : Int32))), (.ref ff)])) rfl rfl (hb hby d11_34)
        refine own_go st62 ?_
        refine own_go (fun _ => XS.iloadN X62.here hx rfl (hb hby d11_37) rfl) ?_
        show own_Go p e below _ (T62.setTop (mkF m 38 #[.val (.ref a), .val (.int d), .val (.int ((0 : Int32) + (1 : Int32))), .val (.int (((0 : Int32) + (1 : Int32)) + (1 : Int32)))] [(.int (((0 : Int32) + (1 : Int32)) + (1 : Int32))), (.ref ff), (.int ((0 : Int32) + (1 : Int32))), (.ref ff)]))
        refine own_go (own_ldJ X62 hx hZ e62 f_A_54 (g := (mkF m 38 #[.val (.ref a), .val (.int d), .val (.int ((0 : Int32) + (1 : Int32))), .val (.int (((0 : Int32) + (1 : Int32)) + (1 : Int32)))] [(.int (((0 : Int32) + (1 : Int32)) + (1 : Int32))), (.ref ff), (.int ((0 : Int32) + (1 : Int32))), (.ref ff)])) rfl rfl (hb hby d11_38) 2 (by decide) (x := (.long f2)) (by rw [List.getElem?_set_ne (by decide)]; exact vf2)) ?_
        obtain ⟨T63, h63, X63, e63, W63, A63, st63⟩ := own_stJ X62 hx hZ e62 f_A_54 (g := (mkF m 39 #[.val (.ref a), .val (.int d), .val (.int ((0 : Int32) + (1 : Int32))), .val (.int (((0 : Int32) + (1 : Int32)) + (1 : Int32)))] [(.long f2), (.int ((0 : Int32) + (1 : Int32))), (.ref ff)])) rfl rfl (hb hby d11_39) 1 (by decide) (by simp [lf])
        have N63 := Fr.snoc X63 N54 gf
        have o_E_63 := o_E_54.wr W63
        have o_from_63 := o_from_54.other W63 (Or.inl ne_a_ff)
        have o_lead_63 := o_lead_54.other W63 (Or.inl ne_a_ff)
        have o_member_63 := o_member_54.other W63 (Or.inl ne_a_ff)
        have o_start_63 := o_start_54.other W63 (Or.inl ne_a_ff)
        have o_end_63 := o_end_54.other W63 (Or.inl ne_a_ff)
        have l_A_63 := l_A_54.other W63 (Ne.symm ne_ff_ll)
        have k_A_63 := A54.other W63 (Ne.symm ne_ff_kk)
        have K63 := K54.wr W63 (Or.inl (List.mem_of_getElem? (i := 1) rfl))
        refine own_go st63 ?_
        refine own_go (fun _ => XS.aloadN X63.here hx rfl (hb hby d11_40) rfl rfl) ?_
        obtain ⟨T64, X64, e64, st64⟩ := getF X63 hx hZ hown (host := "") (Or.inl (hw _ (List.mem_of_getElem? (i := 12) rfl))) Via.refl e63 o_lead_63 (g := (mkF m 41 #[.val (.ref a), .val (.int d), .val (.int ((0 : Int32) + (1 : Int32))), .val (.int (((0 : Int32) + (1 : Int32)) + (1 : Int32)))] [(.ref a)])) rfl rfl (hb hby d11_41)
        refine own_go st64 ?_
        show own_Go p e below _ (T64.setTop (mkF m 44 #[.val (.ref a), .val (.int d), .val (.int ((0 : Int32) + (1 : Int32))), .val (.int (((0 : Int32) + (1 : Int32)) + (1 : Int32)))] [(.ref ll)]))
        refine own_go (fun _ => XS.iloadN X64.here hx rfl (hb hby d11_44) rfl) ?_
        refine own_go (fun _ => XS.aloadN X64.here hx rfl (hb hby d11_45) rfl rfl) ?_
        obtain ⟨T65, X65, e65, st65⟩ := getF X64 hx hZ hown (host := "") (Or.inl (hw _ (List.mem_of_getElem? (i := 12) rfl))) Via.refl e64 o_lead_63 (g := (mkF m 46 #[.val (.ref a), .val (.int d), .val (.int ((0 : Int32) + (1 : Int32))), .val (.int (((0 : Int32) + (1 : Int32)) + (1 : Int32)))] [(.ref a), (.int ((0 : Int32) + (1 : Int32))), (.ref ll)])) rfl rfl (hb hby d11_46)
        refine own_go st65 ?_
        refine own_go (fun _ => XS.iloadN X65.here hx rfl (hb hby d11_49) rfl) ?_
        show own_Go p e below _ (T65.setTop (mkF m 50 #[.val (.ref a), .val (.int d), .val (.int ((0 : Int32) + (1 : Int32))), .val (.int (((0 : Int32) + (1 : Int32)) + (1 : Int32)))] [(.int (((0 : Int32) + (1 : Int32)) + (1 : Int32))), (.ref ll), (.int ((0 : Int32) + (1 : Int32))), (.ref ll)]))
        refine own_go (own_ldJ X65 hx hZ e65 l_A_63 (g := (mkF m 50 #[.val (.ref a), .val (.int d), .val (.int ((0 : Int32) + (1 : Int32))), .val (.int (((0 : Int32) + (1 : Int32)) + (1 : Int32)))] [(.int (((0 : Int32) + (1 : Int32)) + (1 : Int32))), (.ref ll), (.int ((0 : Int32) + (1 : Int32))), (.ref ll)])) rfl rfl (hb hby d11_50) 2 (by decide) (x := (.long u2)) (by rw [List.getElem?_set_ne (by decide)]; exact vl2)) ?_
        obtain ⟨T66, h66, X66, e66, W66, A66, st66⟩ := own_stJ X65 hx hZ e65 l_A_63 (g := (mkF m 51 #[.val (.ref a), .val (.int d), .val (.int ((0 : Int32) + (1 : Int32))), .val (.int (((0 : Int32) + (1 : Int32)) + (1 : Int32)))] [(.long u2), (.int ((0 : Int32) + (1 : Int32))), (.ref ll)])) rfl rfl (hb hby d11_51) 1 (by decide) (by simp [lL])
        have N66 := Fr.snoc X66 N63 gl
        have o_E_66 := o_E_63.wr W66
        have o_from_66 := o_from_63.other W66 (Or.inl ne_a_ll)
        have o_lead_66 := o_lead_63.other W66 (Or.inl ne_a_ll)
        have o_member_66 := o_member_63.other W66 (Or.inl ne_a_ll)
        have o_start_66 := o_start_63.other W66 (Or.inl ne_a_ll)
        have o_end_66 := o_end_63.other W66 (Or.inl ne_a_ll)
        have f_A_66 := A63.other W66 ne_ff_ll
        have k_A_66 := k_A_63.other W66 (Ne.symm ne_ll_kk)
        have K66 := K63.wr W66 (Or.inl (List.mem_of_getElem? (i := 2) rfl))
        refine own_go st66 ?_
        refine own_go (fun _ => XS.aloadN X66.here hx rfl (hb hby d11_52) rfl rfl) ?_
        obtain ⟨T67, X67, e67, st67⟩ := getF X66 hx hZ hown (host := "") (Or.inl (hw _ (List.mem_of_getElem? (i := 15) rfl))) Via.refl e66 o_member_66 (g := (mkF m 53 #[.val (.ref a), .val (.int d), .val (.int ((0 : Int32) + (1 : Int32))), .val (.int (((0 : Int32) + (1 : Int32)) + (1 : Int32)))] [(.ref a)])) rfl rfl (hb hby d11_53)
        refine own_go st67 ?_
        show own_Go p e below _ (T67.setTop (mkF m 56 #[.val (.ref a), .val (.int d), .val (.int ((0 : Int32) + (1 : Int32))), .val (.int (((0 : Int32) + (1 : Int32)) + (1 : Int32)))] [(.ref kk)]))
        refine own_go (fun _ => XS.iloadN X67.here hx rfl (hb hby d11_56) rfl) ?_
        refine own_go (fun _ => XS.aloadN X67.here hx rfl (hb hby d11_57) rfl rfl) ?_
        obtain ⟨T68, X68, e68, st68⟩ := getF X67 hx hZ hown (host := "") (Or.inl (hw _ (List.mem_of_getElem? (i := 15) rfl))) Via.refl e67 o_member_66 (g := (mkF m 58 #[.val (.ref a), .val (.int d), .val (.int ((0 : Int32) + (1 : Int32))), .val (.int (((0 : Int32) + (1 : Int32)) + (1 : Int32)))] [(.ref a), (.int ((0 : Int32) + (1 : Int32))), (.ref kk)])) rfl rfl (hb hby d11_58)
        refine own_go st68 ?_
        refine own_go (fun _ => XS.iloadN X68.here hx rfl (hb hby d11_61) rfl) ?_
        show own_Go p e below _ (T68.setTop (mkF m 62 #[.val (.ref a), .val (.int d), .val (.int ((0 : Int32) + (1 : Int32))), .val (.int (((0 : Int32) + (1 : Int32)) + (1 : Int32)))] [(.int (((0 : Int32) + (1 : Int32)) + (1 : Int32))), (.ref kk), (.int ((0 : Int32) + (1 : Int32))), (.ref kk)]))
        refine own_go (own_ldI X68 hx hZ e68 k_A_66 (g := (mkF m 62 #[.val (.ref a), .val (.int d), .val (.int ((0 : Int32) + (1 : Int32))), .val (.int (((0 : Int32) + (1 : Int32)) + (1 : Int32)))] [(.int (((0 : Int32) + (1 : Int32)) + (1 : Int32))), (.ref kk), (.int ((0 : Int32) + (1 : Int32))), (.ref kk)])) rfl rfl (hb hby d11_62) 2 (by decide) (x := (.int k2)) (by rw [List.getElem?_set_ne (by decide)]; exact vk2)) ?_
        obtain ⟨T69, h69, X69, e69, W69, A69, st69⟩ := own_stI X68 hx hZ e68 k_A_66 (g := (mkF m 63 #[.val (.ref a), .val (.int d), .val (.int ((0 : Int32) + (1 : Int32))), .val (.int (((0 : Int32) + (1 : Int32)) + (1 : Int32)))] [(.int k2), (.int ((0 : Int32) + (1 : Int32))), (.ref kk)])) rfl rfl (hb hby d11_63) 1 (by decide) (by simp [lk])
        have N69 := Fr.snoc X69 N66 gk
        have o_E_69 := o_E_66.wr W69
        have o_from_69 := o_from_66.other W69 (Or.inl ne_a_kk)
        have o_lead_69 := o_lead_66.other W69 (Or.inl ne_a_kk)
        have o_member_69 := o_member_66.other W69 (Or.inl ne_a_kk)
        have o_start_69 := o_start_66.other W69 (Or.inl ne_a_kk)
        have o_end_69 := o_end_66.other W69 (Or.inl ne_a_kk)
        have f_A_69 := f_A_66.other W69 ne_ff_kk
        have l_A_69 := A66.other W69 ne_ll_kk
        have K69 := K66.wr W69 (Or.inl (List.mem_of_getElem? (i := 3) rfl))
        refine own_go st69 ?_
        refine own_go (fun _ => XT.iincV X69.here hx rfl (1 : Int32) (hb hby d11_64) rfl rfl (l' := #[.val (.ref a), .val (.int d), .val (.int (((0 : Int32) + (1 : Int32)) + (1 : Int32))), .val (.int (((0 : Int32) + (1 : Int32)) + (1 : Int32)))]) rfl) ?_
        refine own_go (fun _ => XT.iincV X69.here hx rfl (1 : Int32) (hb hby d11_67) rfl rfl (l' := #[.val (.ref a), .val (.int d), .val (.int (((0 : Int32) + (1 : Int32)) + (1 : Int32))), .val (.int ((((0 : Int32) + (1 : Int32)) + (1 : Int32)) + (1 : Int32)))]) rfl) ?_
        show own_Go p e below _ (T69.setTop (mkF m 70 #[.val (.ref a), .val (.int d), .val (.int (((0 : Int32) + (1 : Int32)) + (1 : Int32))), .val (.int ((((0 : Int32) + (1 : Int32)) + (1 : Int32)) + (1 : Int32)))] []))
        refine own_go (fun _ => XS.goto X69.here hx rfl (pc0 := 70) (pc' := 10) rfl (hb hby d11_70) (by decide) (by decide)) ?_
        refine own_go (fun _ => XS.iloadN X69.here hx rfl (hb hby d11_10) rfl) ?_
        refine own_go (fun _ => XS.aloadN X69.here hx rfl (hb hby d11_11) rfl rfl) ?_
        obtain ⟨T70, X70, e70, st70⟩ := getF X69 hx hZ hown (host := "") (Or.inl (hw _ (List.mem_of_getElem? (i := 48) rfl))) Via.refl e69 o_end_69 (g := (mkF m 12 #[.val (.ref a), .val (.int d), .val (.int (((0 : Int32) + (1 : Int32)) + (1 : Int32))), .val (.int ((((0 : Int32) + (1 : Int32)) + (1 : Int32)) + (1 : Int32)))] [(.ref a), (.int ((((0 : Int32) + (1 : Int32)) + (1 : Int32)) + (1 : Int32)))])) rfl rfl (hb hby d11_12)
        refine own_go st70 ?_
        show own_Go p e below _ (T70.setTop (mkF m 15 #[.val (.ref a), .val (.int d), .val (.int (((0 : Int32) + (1 : Int32)) + (1 : Int32))), .val (.int ((((0 : Int32) + (1 : Int32)) + (1 : Int32)) + (1 : Int32)))] [(.int (3 : Int32)), (.int ((((0 : Int32) + (1 : Int32)) + (1 : Int32)) + (1 : Int32)))]))
        refine own_go (fun _ => XS.icmpYes X70.here hx rfl (pc0 := 15) (pc' := 73) rfl (hb hby d11_15) rfl (XT.ii_ge_t (by decide)) (by decide) (by decide)) ?_
        refine own_go (fun _ => XS.aloadN X70.here hx rfl (hb hby d11_73) rfl rfl) ?_
        refine own_go (fun _ => XS.iloadN X70.here hx rfl (hb hby d11_74) rfl) ?_
        obtain ⟨T71, h71, X71, e71, W71, st71⟩ := putF X70 hx hZ hown (host := "") (Or.inl (hw _ (List.mem_of_getElem? (i := 48) rfl))) Via.refl e70 o_end_69 o_E_69 (Or.inl (hw _ (List.mem_of_getElem? (i := 49) rfl))) (hw _ (List.mem_of_getElem? (i := 1) rfl)) (ty := .int) (by decide) rfl rfl (g := (mkF m 75 #[.val (.ref a), .val (.int d), .val (.int (((0 : Int32) + (1 : Int32)) + (1 : Int32))), .val (.int ((((0 : Int32) + (1 : Int32)) + (1 : Int32)) + (1 : Int32)))] [(.int (((0 : Int32) + (1 : Int32)) + (1 : Int32))), (.ref a)])) rfl rfl (hb hby d11_75)
        have N71 := Fr.snoc X71 N69 ga
        have o_E_71 := o_E_69.wr W71
        have o_from_71 := o_from_69.other W71 (Or.inr (slot_ne (t := (.array .long)) (t' := .int) (Or.inl (hw _ (List.mem_of_getElem? (i := 11) rfl))) (Or.inl (hw _ (List.mem_of_getElem? (i := 49) rfl))) (by decide) (by decide) (by decide)))
        have o_lead_71 := o_lead_69.other W71 (Or.inr (slot_ne (t := (.array .long)) (t' := .int) (Or.inl (hw _ (List.mem_of_getElem? (i := 13) rfl))) (Or.inl (hw _ (List.mem_of_getElem? (i := 49) rfl))) (by decide) (by decide) (by decide)))
        have o_member_71 := o_member_69.other W71 (Or.inr (slot_ne (t := (.array .int)) (t' := .int) (Or.inl (hw _ (List.mem_of_getElem? (i := 16) rfl))) (Or.inl (hw _ (List.mem_of_getElem? (i := 49) rfl))) (by decide) (by decide) (by decide)))
        have o_start_71 := o_start_69.other W71 (Or.inr (slot_ne (t := .int) (t' := .int) (Or.inl (hw _ (List.mem_of_getElem? (i := 55) rfl))) (Or.inl (hw _ (List.mem_of_getElem? (i := 49) rfl))) (by decide) (by decide) (by decide)))
        have o_end_71 := o_end_69.same W71
        have f_A_71 := f_A_69.other W71 (Ne.symm ne_a_ff)
        have l_A_71 := l_A_69.other W71 (Ne.symm ne_a_ll)
        have k_A_71 := A69.other W71 (Ne.symm ne_a_kk)
        have K71 := K69.wr W71 (Or.inl (List.mem_of_getElem? (i := 0) rfl))
        refine own_go st71 ?_
        show own_Go p e below _ (T71.setTop (mkF m 78 #[.val (.ref a), .val (.int d), .val (.int (((0 : Int32) + (1 : Int32)) + (1 : Int32))), .val (.int ((((0 : Int32) + (1 : Int32)) + (1 : Int32)) + (1 : Int32)))] []))
        have ek : own_keep d [(f0, u0, k0), (f1, u1, k1), (f2, u2, k2)] = [(f0, u0, k0), (f2, u2, k2)] := by simp [own_keep, hk0, hk1, hk2]
        rw [ek]
        have own_en0 : own_En fs ls ks [] := fun i e q => by cases i <;> simp at q
        exact own_vret X71 hx hlk hret (hb hby d11_78) (by decide) (by decide) (by rw [e71]; exact ⟨rfl, N71, K71, _, _, _, ⟨⟨o_E_71, f_A_71, l_A_71, k_A_71⟩, ⟨o_from_71, o_lead_71, o_member_71, o_start_71, o_end_71⟩, ⟨ne_a_ff, ne_a_ll, ne_a_kk, ne_ff_ll, ne_ff_kk, ne_ll_kk⟩⟩, ((own_en0.set 0 rfl (by simp [lf]) (by simp [lL]) (by simp [lk]) (f0, u0, k0)).set 1 rfl (by simp [lf]) (by simp [lL]) (by simp [lk]) (f2, u2, k2)), by simp [lf], by simp [lL], by simp [lk]⟩)
    · skip
      refine own_go (fun _ => XS.icmpNo X56.here hx rfl (hb hby d11_25) rfl (XT.ii_eq_f hk1)) ?_
      refine own_go (fun _ => XS.aloadN X56.here hx rfl (hb hby d11_28) rfl rfl) ?_
      obtain ⟨T72, X72, e72, st72⟩ := getF X56 hx hZ hown (host := "") (Or.inl (hw _ (List.mem_of_getElem? (i := 10) rfl))) Via.refl e56 o_from_54 (g := (mkF m 29 #[.val (.ref a), .val (.int d), .val (.int ((0 : Int32) + (1 : Int32))), .val (.int ((0 : Int32) + (1 : Int32)))] [(.ref a)])) rfl rfl (hb hby d11_29)
      refine own_go st72 ?_
      refine own_go (fun _ => XS.iloadN X72.here hx rfl (hb hby d11_32) rfl) ?_
      show own_Go p e below _ (T72.setTop (mkF m 33 #[.val (.ref a), .val (.int d), .val (.int ((0 : Int32) + (1 : Int32))), .val (.int ((0 : Int32) + (1 : Int32)))] [(.int ((0 : Int32) + (1 : Int32))), (.ref ff)]))
      refine own_go (fun _ => XS.aloadN X72.here hx rfl (hb hby d11_33) rfl rfl) ?_
      obtain ⟨T73, X73, e73, st73⟩ := getF X72 hx hZ hown (host := "") (Or.inl (hw _ (List.mem_of_getElem? (i := 10) rfl))) Via.refl e72 o_from_54 (g := (mkF m 34 #[.val (.ref a), .val (.int d), .val (.int ((0 : Int32) + (1 : Int32))), .val (.int ((0 : Int32) + (1 : Int32)))] [(.ref a), (.int ((0 : Int32) + (1 : Int32))), (.ref ff)])) rfl rfl (hb hby d11_34)
      refine own_go st73 ?_
      refine own_go (fun _ => XS.iloadN X73.here hx rfl (hb hby d11_37) rfl) ?_
      refine own_go (own_ldJ X73 hx hZ e73 f_A_54 (g := (mkF m 38 #[.val (.ref a), .val (.int d), .val (.int ((0 : Int32) + (1 : Int32))), .val (.int ((0 : Int32) + (1 : Int32)))] [(.int ((0 : Int32) + (1 : Int32))), (.ref ff), (.int ((0 : Int32) + (1 : Int32))), (.ref ff)])) rfl rfl (hb hby d11_38) 1 (by decide) (x := (.long f1)) (by rw [List.getElem?_set_ne (by decide)]; exact vf1)) ?_
      show own_Go p e below _ (T73.setTop (mkF m 39 #[.val (.ref a), .val (.int d), .val (.int ((0 : Int32) + (1 : Int32))), .val (.int ((0 : Int32) + (1 : Int32)))] [(.long f1), (.int ((0 : Int32) + (1 : Int32))), (.ref ff)]))
      obtain ⟨T74, h74, X74, e74, W74, A74, st74⟩ := own_stJ X73 hx hZ e73 f_A_54 (g := (mkF m 39 #[.val (.ref a), .val (.int d), .val (.int ((0 : Int32) + (1 : Int32))), .val (.int ((0 : Int32) + (1 : Int32)))] [(.long f1), (.int ((0 : Int32) + (1 : Int32))), (.ref ff)])) rfl rfl (hb hby d11_39) 1 (by decide) (by simp [lf])
      have N74 := Fr.snoc X74 N54 gf
      have o_E_74 := o_E_54.wr W74
      have o_from_74 := o_from_54.other W74 (Or.inl ne_a_ff)
      have o_lead_74 := o_lead_54.other W74 (Or.inl ne_a_ff)
      have o_member_74 := o_member_54.other W74 (Or.inl ne_a_ff)
      have o_start_74 := o_start_54.other W74 (Or.inl ne_a_ff)
      have o_end_74 := o_end_54.other W74 (Or.inl ne_a_ff)
      have l_A_74 := l_A_54.other W74 (Ne.symm ne_ff_ll)
      have k_A_74 := A54.other W74 (Ne.symm ne_ff_kk)
      have K74 := K54.wr W74 (Or.inl (List.mem_of_getElem? (i := 1) rfl))
      refine own_go st74 ?_
      refine own_go (fun _ => XS.aloadN X74.here hx rfl (hb hby d11_40) rfl rfl) ?_
      obtain ⟨T75, X75, e75, st75⟩ := getF X74 hx hZ hown (host := "") (Or.inl (hw _ (List.mem_of_getElem? (i := 12) rfl))) Via.refl e74 o_lead_74 (g := (mkF m 41 #[.val (.ref a), .val (.int d), .val (.int ((0 : Int32) + (1 : Int32))), .val (.int ((0 : Int32) + (1 : Int32)))] [(.ref a)])) rfl rfl (hb hby d11_41)
      refine own_go st75 ?_
      refine own_go (fun _ => XS.iloadN X75.here hx rfl (hb hby d11_44) rfl) ?_
      show own_Go p e below _ (T75.setTop (mkF m 45 #[.val (.ref a), .val (.int d), .val (.int ((0 : Int32) + (1 : Int32))), .val (.int ((0 : Int32) + (1 : Int32)))] [(.int ((0 : Int32) + (1 : Int32))), (.ref ll)]))
      refine own_go (fun _ => XS.aloadN X75.here hx rfl (hb hby d11_45) rfl rfl) ?_
      obtain ⟨T76, X76, e76, st76⟩ := getF X75 hx hZ hown (host := "") (Or.inl (hw _ (List.mem_of_getElem? (i := 12) rfl))) Via.refl e75 o_lead_74 (g := (mkF m 46 #[.val (.ref a), .val (.int d), .val (.int ((0 : Int32) + (1 : Int32))), .val (.int ((0 : Int32) + (1 : Int32)))] [(.ref a), (.int ((0 : Int32) + (1 : Int32))), (.ref ll)])) rfl rfl (hb hby d11_46)
      refine own_go st76 ?_
      refine own_go (fun _ => XS.iloadN X76.here hx rfl (hb hby d11_49) rfl) ?_
      refine own_go (own_ldJ X76 hx hZ e76 l_A_74 (g := (mkF m 50 #[.val (.ref a), .val (.int d), .val (.int ((0 : Int32) + (1 : Int32))), .val (.int ((0 : Int32) + (1 : Int32)))] [(.int ((0 : Int32) + (1 : Int32))), (.ref ll), (.int ((0 : Int32) + (1 : Int32))), (.ref ll)])) rfl rfl (hb hby d11_50) 1 (by decide) (x := (.long u1)) (by rw [List.getElem?_set_ne (by decide)]; exact vl1)) ?_
      show own_Go p e below _ (T76.setTop (mkF m 51 #[.val (.ref a), .val (.int d), .val (.int ((0 : Int32) + (1 : Int32))), .val (.int ((0 : Int32) + (1 : Int32)))] [(.long u1), (.int ((0 : Int32) + (1 : Int32))), (.ref ll)]))
      obtain ⟨T77, h77, X77, e77, W77, A77, st77⟩ := own_stJ X76 hx hZ e76 l_A_74 (g := (mkF m 51 #[.val (.ref a), .val (.int d), .val (.int ((0 : Int32) + (1 : Int32))), .val (.int ((0 : Int32) + (1 : Int32)))] [(.long u1), (.int ((0 : Int32) + (1 : Int32))), (.ref ll)])) rfl rfl (hb hby d11_51) 1 (by decide) (by simp [lL])
      have N77 := Fr.snoc X77 N74 gl
      have o_E_77 := o_E_74.wr W77
      have o_from_77 := o_from_74.other W77 (Or.inl ne_a_ll)
      have o_lead_77 := o_lead_74.other W77 (Or.inl ne_a_ll)
      have o_member_77 := o_member_74.other W77 (Or.inl ne_a_ll)
      have o_start_77 := o_start_74.other W77 (Or.inl ne_a_ll)
      have o_end_77 := o_end_74.other W77 (Or.inl ne_a_ll)
      have f_A_77 := A74.other W77 ne_ff_ll
      have k_A_77 := k_A_74.other W77 (Ne.symm ne_ll_kk)
      have K77 := K74.wr W77 (Or.inl (List.mem_of_getElem? (i := 2) rfl))
      refine own_go st77 ?_
      refine own_go (fun _ => XS.aloadN X77.here hx rfl (hb hby d11_52) rfl rfl) ?_
      obtain ⟨T78, X78, e78, st78⟩ := getF X77 hx hZ hown (host := "") (Or.inl (hw _ (List.mem_of_getElem? (i := 15) rfl))) Via.refl e77 o_member_77 (g := (mkF m 53 #[.val (.ref a), .val (.int d), .val (.int ((0 : Int32) + (1 : Int32))), .val (.int ((0 : Int32) + (1 : Int32)))] [(.ref a)])) rfl rfl (hb hby d11_53)
      refine own_go st78 ?_
      refine own_go (fun _ => XS.iloadN X78.here hx rfl (hb hby d11_56) rfl) ?_
      show own_Go p e below _ (T78.setTop (mkF m 57 #[.val (.ref a), .val (.int d), .val (.int ((0 : Int32) + (1 : Int32))), .val (.int ((0 : Int32) + (1 : Int32)))] [(.int ((0 : Int32) + (1 : Int32))), (.ref kk)]))
      refine own_go (fun _ => XS.aloadN X78.here hx rfl (hb hby d11_57) rfl rfl) ?_
      obtain ⟨T79, X79, e79, st79⟩ := getF X78 hx hZ hown (host := "") (Or.inl (hw _ (List.mem_of_getElem? (i := 15) rfl))) Via.refl e78 o_member_77 (g := (mkF m 58 #[.val (.ref a), .val (.int d), .val (.int ((0 : Int32) + (1 : Int32))), .val (.int ((0 : Int32) + (1 : Int32)))] [(.ref a), (.int ((0 : Int32) + (1 : Int32))), (.ref kk)])) rfl rfl (hb hby d11_58)
      refine own_go st79 ?_
      refine own_go (fun _ => XS.iloadN X79.here hx rfl (hb hby d11_61) rfl) ?_
      refine own_go (own_ldI X79 hx hZ e79 k_A_77 (g := (mkF m 62 #[.val (.ref a), .val (.int d), .val (.int ((0 : Int32) + (1 : Int32))), .val (.int ((0 : Int32) + (1 : Int32)))] [(.int ((0 : Int32) + (1 : Int32))), (.ref kk), (.int ((0 : Int32) + (1 : Int32))), (.ref kk)])) rfl rfl (hb hby d11_62) 1 (by decide) (x := (.int k1)) (by rw [List.getElem?_set_ne (by decide)]; exact vk1)) ?_
      show own_Go p e below _ (T79.setTop (mkF m 63 #[.val (.ref a), .val (.int d), .val (.int ((0 : Int32) + (1 : Int32))), .val (.int ((0 : Int32) + (1 : Int32)))] [(.int k1), (.int ((0 : Int32) + (1 : Int32))), (.ref kk)]))
      obtain ⟨T80, h80, X80, e80, W80, A80, st80⟩ := own_stI X79 hx hZ e79 k_A_77 (g := (mkF m 63 #[.val (.ref a), .val (.int d), .val (.int ((0 : Int32) + (1 : Int32))), .val (.int ((0 : Int32) + (1 : Int32)))] [(.int k1), (.int ((0 : Int32) + (1 : Int32))), (.ref kk)])) rfl rfl (hb hby d11_63) 1 (by decide) (by simp [lk])
      have N80 := Fr.snoc X80 N77 gk
      have o_E_80 := o_E_77.wr W80
      have o_from_80 := o_from_77.other W80 (Or.inl ne_a_kk)
      have o_lead_80 := o_lead_77.other W80 (Or.inl ne_a_kk)
      have o_member_80 := o_member_77.other W80 (Or.inl ne_a_kk)
      have o_start_80 := o_start_77.other W80 (Or.inl ne_a_kk)
      have o_end_80 := o_end_77.other W80 (Or.inl ne_a_kk)
      have f_A_80 := f_A_77.other W80 ne_ff_kk
      have l_A_80 := A77.other W80 ne_ll_kk
      have K80 := K77.wr W80 (Or.inl (List.mem_of_getElem? (i := 3) rfl))
      refine own_go st80 ?_
      refine own_go (fun _ => XT.iincV X80.here hx rfl (1 : Int32) (hb hby d11_64) rfl rfl (l' := #[.val (.ref a), .val (.int d), .val (.int (((0 : Int32) + (1 : Int32)) + (1 : Int32))), .val (.int ((0 : Int32) + (1 : Int32)))]) rfl) ?_
      refine own_go (fun _ => XT.iincV X80.here hx rfl (1 : Int32) (hb hby d11_67) rfl rfl (l' := #[.val (.ref a), .val (.int d), .val (.int (((0 : Int32) + (1 : Int32)) + (1 : Int32))), .val (.int (((0 : Int32) + (1 : Int32)) + (1 : Int32)))]) rfl) ?_
      refine own_go (fun _ => XS.goto X80.here hx rfl (pc0 := 70) (pc' := 10) rfl (hb hby d11_70) (by decide) (by decide)) ?_
      show own_Go p e below _ (T80.setTop (mkF m 10 #[.val (.ref a), .val (.int d), .val (.int (((0 : Int32) + (1 : Int32)) + (1 : Int32))), .val (.int (((0 : Int32) + (1 : Int32)) + (1 : Int32)))] []))
      refine own_go (fun _ => XS.iloadN X80.here hx rfl (hb hby d11_10) rfl) ?_
      refine own_go (fun _ => XS.aloadN X80.here hx rfl (hb hby d11_11) rfl rfl) ?_
      obtain ⟨T81, X81, e81, st81⟩ := getF X80 hx hZ hown (host := "") (Or.inl (hw _ (List.mem_of_getElem? (i := 48) rfl))) Via.refl e80 o_end_80 (g := (mkF m 12 #[.val (.ref a), .val (.int d), .val (.int (((0 : Int32) + (1 : Int32)) + (1 : Int32))), .val (.int (((0 : Int32) + (1 : Int32)) + (1 : Int32)))] [(.ref a), (.int (((0 : Int32) + (1 : Int32)) + (1 : Int32)))])) rfl rfl (hb hby d11_12)
      refine own_go st81 ?_
      refine own_go (fun _ => XS.icmpNo X81.here hx rfl (hb hby d11_15) rfl (XT.ii_ge_f (by decide))) ?_
      show own_Go p e below _ (T81.setTop (mkF m 18 #[.val (.ref a), .val (.int d), .val (.int (((0 : Int32) + (1 : Int32)) + (1 : Int32))), .val (.int (((0 : Int32) + (1 : Int32)) + (1 : Int32)))] []))
      refine own_go (fun _ => XS.aloadN X81.here hx rfl (hb hby d11_18) rfl rfl) ?_
      obtain ⟨T82, X82, e82, st82⟩ := getF X81 hx hZ hown (host := "") (Or.inl (hw _ (List.mem_of_getElem? (i := 15) rfl))) Via.refl e81 o_member_80 (g := (mkF m 19 #[.val (.ref a), .val (.int d), .val (.int (((0 : Int32) + (1 : Int32)) + (1 : Int32))), .val (.int (((0 : Int32) + (1 : Int32)) + (1 : Int32)))] [(.ref a)])) rfl rfl (hb hby d11_19)
      refine own_go st82 ?_
      refine own_go (fun _ => XS.iloadN X82.here hx rfl (hb hby d11_22) rfl) ?_
      refine own_go (own_ldI X82 hx hZ e82 A80 (g := (mkF m 23 #[.val (.ref a), .val (.int d), .val (.int (((0 : Int32) + (1 : Int32)) + (1 : Int32))), .val (.int (((0 : Int32) + (1 : Int32)) + (1 : Int32)))] [(.int (((0 : Int32) + (1 : Int32)) + (1 : Int32))), (.ref kk)])) rfl rfl (hb hby d11_23) 2 (by decide) (x := (.int k2)) (by rw [List.getElem?_set_ne (by decide)]; rw [List.getElem?_set_ne (by decide)]; exact vk2)) ?_
      show own_Go p e below _ (T82.setTop (mkF m 24 #[.val (.ref a), .val (.int d), .val (.int (((0 : Int32) + (1 : Int32)) + (1 : Int32))), .val (.int (((0 : Int32) + (1 : Int32)) + (1 : Int32)))] [(.int k2)]))
      refine own_go (fun _ => XS.iloadN X82.here hx rfl (hb hby d11_24) rfl) ?_
      by_cases hk2 : k2 = d
      · skip
        refine own_go (fun _ => XS.icmpYes X82.here hx rfl (pc0 := 25) (pc' := 67) rfl (hb hby d11_25) rfl (XT.ii_eq_t hk2) (by decide) (by decide)) ?_
        refine own_go (fun _ => XT.iincV X82.here hx rfl (1 : Int32) (hb hby d11_67) rfl rfl (l' := #[.val (.ref a), .val (.int d), .val (.int (((0 : Int32) + (1 : Int32)) + (1 : Int32))), .val (.int ((((0 : Int32) + (1 : Int32)) + (1 : Int32)) + (1 : Int32)))]) rfl) ?_
        refine own_go (fun _ => XS.goto X82.here hx rfl (pc0 := 70) (pc' := 10) rfl (hb hby d11_70) (by decide) (by decide)) ?_
        show own_Go p e below _ (T82.setTop (mkF m 10 #[.val (.ref a), .val (.int d), .val (.int (((0 : Int32) + (1 : Int32)) + (1 : Int32))), .val (.int ((((0 : Int32) + (1 : Int32)) + (1 : Int32)) + (1 : Int32)))] []))
        refine own_go (fun _ => XS.iloadN X82.here hx rfl (hb hby d11_10) rfl) ?_
        refine own_go (fun _ => XS.aloadN X82.here hx rfl (hb hby d11_11) rfl rfl) ?_
        obtain ⟨T83, X83, e83, st83⟩ := getF X82 hx hZ hown (host := "") (Or.inl (hw _ (List.mem_of_getElem? (i := 48) rfl))) Via.refl e82 o_end_80 (g := (mkF m 12 #[.val (.ref a), .val (.int d), .val (.int (((0 : Int32) + (1 : Int32)) + (1 : Int32))), .val (.int ((((0 : Int32) + (1 : Int32)) + (1 : Int32)) + (1 : Int32)))] [(.ref a), (.int ((((0 : Int32) + (1 : Int32)) + (1 : Int32)) + (1 : Int32)))])) rfl rfl (hb hby d11_12)
        refine own_go st83 ?_
        refine own_go (fun _ => XS.icmpYes X83.here hx rfl (pc0 := 15) (pc' := 73) rfl (hb hby d11_15) rfl (XT.ii_ge_t (by decide)) (by decide) (by decide)) ?_
        show own_Go p e below _ (T83.setTop (mkF m 73 #[.val (.ref a), .val (.int d), .val (.int (((0 : Int32) + (1 : Int32)) + (1 : Int32))), .val (.int ((((0 : Int32) + (1 : Int32)) + (1 : Int32)) + (1 : Int32)))] []))
        refine own_go (fun _ => XS.aloadN X83.here hx rfl (hb hby d11_73) rfl rfl) ?_
        refine own_go (fun _ => XS.iloadN X83.here hx rfl (hb hby d11_74) rfl) ?_
        obtain ⟨T84, h84, X84, e84, W84, st84⟩ := putF X83 hx hZ hown (host := "") (Or.inl (hw _ (List.mem_of_getElem? (i := 48) rfl))) Via.refl e83 o_end_80 o_E_80 (Or.inl (hw _ (List.mem_of_getElem? (i := 49) rfl))) (hw _ (List.mem_of_getElem? (i := 1) rfl)) (ty := .int) (by decide) rfl rfl (g := (mkF m 75 #[.val (.ref a), .val (.int d), .val (.int (((0 : Int32) + (1 : Int32)) + (1 : Int32))), .val (.int ((((0 : Int32) + (1 : Int32)) + (1 : Int32)) + (1 : Int32)))] [(.int (((0 : Int32) + (1 : Int32)) + (1 : Int32))), (.ref a)])) rfl rfl (hb hby d11_75)
        have N84 := Fr.snoc X84 N80 ga
        have o_E_84 := o_E_80.wr W84
        have o_from_84 := o_from_80.other W84 (Or.inr (slot_ne (t := (.array .long)) (t' := .int) (Or.inl (hw _ (List.mem_of_getElem? (i := 11) rfl))) (Or.inl (hw _ (List.mem_of_getElem? (i := 49) rfl))) (by decide) (by decide) (by decide)))
        have o_lead_84 := o_lead_80.other W84 (Or.inr (slot_ne (t := (.array .long)) (t' := .int) (Or.inl (hw _ (List.mem_of_getElem? (i := 13) rfl))) (Or.inl (hw _ (List.mem_of_getElem? (i := 49) rfl))) (by decide) (by decide) (by decide)))
        have o_member_84 := o_member_80.other W84 (Or.inr (slot_ne (t := (.array .int)) (t' := .int) (Or.inl (hw _ (List.mem_of_getElem? (i := 16) rfl))) (Or.inl (hw _ (List.mem_of_getElem? (i := 49) rfl))) (by decide) (by decide) (by decide)))
        have o_start_84 := o_start_80.other W84 (Or.inr (slot_ne (t := .int) (t' := .int) (Or.inl (hw _ (List.mem_of_getElem? (i := 55) rfl))) (Or.inl (hw _ (List.mem_of_getElem? (i := 49) rfl))) (by decide) (by decide) (by decide)))
        have o_end_84 := o_end_80.same W84
        have f_A_84 := f_A_80.other W84 (Ne.symm ne_a_ff)
        have l_A_84 := l_A_80.other W84 (Ne.symm ne_a_ll)
        have k_A_84 := A80.other W84 (Ne.symm ne_a_kk)
        have K84 := K80.wr W84 (Or.inl (List.mem_of_getElem? (i := 0) rfl))
        refine own_go st84 ?_
        have ek : own_keep d [(f0, u0, k0), (f1, u1, k1), (f2, u2, k2)] = [(f0, u0, k0), (f1, u1, k1)] := by simp [own_keep, hk0, hk1, hk2]
        rw [ek]
        have own_en0 : own_En fs ls ks [] := fun i e q => by cases i <;> simp at q
        exact own_vret X84 hx hlk hret (hb hby d11_78) (by decide) (by decide) (by rw [e84]; exact ⟨rfl, N84, K84, _, _, _, ⟨⟨o_E_84, f_A_84, l_A_84, k_A_84⟩, ⟨o_from_84, o_lead_84, o_member_84, o_start_84, o_end_84⟩, ⟨ne_a_ff, ne_a_ll, ne_a_kk, ne_ff_ll, ne_ff_kk, ne_ll_kk⟩⟩, ((own_en0.set 0 rfl (by simp [lf]) (by simp [lL]) (by simp [lk]) (f0, u0, k0)).set 1 rfl (by simp [lf]) (by simp [lL]) (by simp [lk]) (f1, u1, k1)), by simp [lf], by simp [lL], by simp [lk]⟩)
      · skip
        refine own_go (fun _ => XS.icmpNo X82.here hx rfl (hb hby d11_25) rfl (XT.ii_eq_f hk2)) ?_
        show own_Go p e below _ (T82.setTop (mkF m 28 #[.val (.ref a), .val (.int d), .val (.int (((0 : Int32) + (1 : Int32)) + (1 : Int32))), .val (.int (((0 : Int32) + (1 : Int32)) + (1 : Int32)))] []))
        refine own_go (fun _ => XS.aloadN X82.here hx rfl (hb hby d11_28) rfl rfl) ?_
        obtain ⟨T85, X85, e85, st85⟩ := getF X82 hx hZ hown (host := "") (Or.inl (hw _ (List.mem_of_getElem? (i := 10) rfl))) Via.refl e82 o_from_80 (g := (mkF m 29 #[.val (.ref a), .val (.int d), .val (.int (((0 : Int32) + (1 : Int32)) + (1 : Int32))), .val (.int (((0 : Int32) + (1 : Int32)) + (1 : Int32)))] [(.ref a)])) rfl rfl (hb hby d11_29)
        refine own_go st85 ?_
        refine own_go (fun _ => XS.iloadN X85.here hx rfl (hb hby d11_32) rfl) ?_
        refine own_go (fun _ => XS.aloadN X85.here hx rfl (hb hby d11_33) rfl rfl) ?_
        show own_Go p e below _ (T85.setTop (mkF m 34 #[.val (.ref a), .val (.int d), .val (.int (((0 : Int32) + (1 : Int32)) + (1 : Int32))), .val (.int (((0 : Int32) + (1 : Int32)) + (1 : Int32)))] [(.ref a), (.int (((0 : Int32) + (1 : Int32)) + (1 : Int32))), (.ref ff)]))
        obtain ⟨T86, X86, e86, st86⟩ := getF X85 hx hZ hown (host := "") (Or.inl (hw _ (List.mem_of_getElem? (i := 10) rfl))) Via.refl e85 o_from_80 (g := (mkF m 34 #[.val (.ref a), .val (.int d), .val (.int (((0 : Int32) + (1 : Int32)) + (1 : Int32))), .val (.int (((0 : Int32) + (1 : Int32)) + (1 : Int32)))] [(.ref a), (.int (((0 : Int32) + (1 : Int32)) + (1 : Int32))), (.ref ff)])) rfl rfl (hb hby d11_34)
        refine own_go st86 ?_
        refine own_go (fun _ => XS.iloadN X86.here hx rfl (hb hby d11_37) rfl) ?_
        refine own_go (own_ldJ X86 hx hZ e86 f_A_80 (g := (mkF m 38 #[.val (.ref a), .val (.int d), .val (.int (((0 : Int32) + (1 : Int32)) + (1 : Int32))), .val (.int (((0 : Int32) + (1 : Int32)) + (1 : Int32)))] [(.int (((0 : Int32) + (1 : Int32)) + (1 : Int32))), (.ref ff), (.int (((0 : Int32) + (1 : Int32)) + (1 : Int32))), (.ref ff)])) rfl rfl (hb hby d11_38) 2 (by decide) (x := (.long f2)) (by rw [List.getElem?_set_ne (by decide)]; rw [List.getElem?_set_ne (by decide)]; exact vf2)) ?_
        obtain ⟨T87, h87, X87, e87, W87, A87, st87⟩ := own_stJ X86 hx hZ e86 f_A_80 (g := (mkF m 39 #[.val (.ref a), .val (.int d), .val (.int (((0 : Int32) + (1 : Int32)) + (1 : Int32))), .val (.int (((0 : Int32) + (1 : Int32)) + (1 : Int32)))] [(.long f2), (.int (((0 : Int32) + (1 : Int32)) + (1 : Int32))), (.ref ff)])) rfl rfl (hb hby d11_39) 2 (by decide) (by simp [lf])
        have N87 := Fr.snoc X87 N80 gf
        have o_E_87 := o_E_80.wr W87
        have o_from_87 := o_from_80.other W87 (Or.inl ne_a_ff)
        have o_lead_87 := o_lead_80.other W87 (Or.inl ne_a_ff)
        have o_member_87 := o_member_80.other W87 (Or.inl ne_a_ff)
        have o_start_87 := o_start_80.other W87 (Or.inl ne_a_ff)
        have o_end_87 := o_end_80.other W87 (Or.inl ne_a_ff)
        have l_A_87 := l_A_80.other W87 (Ne.symm ne_ff_ll)
        have k_A_87 := A80.other W87 (Ne.symm ne_ff_kk)
        have K87 := K80.wr W87 (Or.inl (List.mem_of_getElem? (i := 1) rfl))
        refine own_go st87 ?_
        show own_Go p e below _ (T87.setTop (mkF m 40 #[.val (.ref a), .val (.int d), .val (.int (((0 : Int32) + (1 : Int32)) + (1 : Int32))), .val (.int (((0 : Int32) + (1 : Int32)) + (1 : Int32)))] []))
        refine own_go (fun _ => XS.aloadN X87.here hx rfl (hb hby d11_40) rfl rfl) ?_
        obtain ⟨T88, X88, e88, st88⟩ := getF X87 hx hZ hown (host := "") (Or.inl (hw _ (List.mem_of_getElem? (i := 12) rfl))) Via.refl e87 o_lead_87 (g := (mkF m 41 #[.val (.ref a), .val (.int d), .val (.int (((0 : Int32) + (1 : Int32)) + (1 : Int32))), .val (.int (((0 : Int32) + (1 : Int32)) + (1 : Int32)))] [(.ref a)])) rfl rfl (hb hby d11_41)
        refine own_go st88 ?_
        refine own_go (fun _ => XS.iloadN X88.here hx rfl (hb hby d11_44) rfl) ?_
        refine own_go (fun _ => XS.aloadN X88.here hx rfl (hb hby d11_45) rfl rfl) ?_
        show own_Go p e below _ (T88.setTop (mkF m 46 #[.val (.ref a), .val (.int d), .val (.int (((0 : Int32) + (1 : Int32)) + (1 : Int32))), .val (.int (((0 : Int32) + (1 : Int32)) + (1 : Int32)))] [(.ref a), (.int (((0 : Int32) + (1 : Int32)) + (1 : Int32))), (.ref ll)]))
        obtain ⟨T89, X89, e89, st89⟩ := getF X88 hx hZ hown (host := "") (Or.inl (hw _ (List.mem_of_getElem? (i := 12) rfl))) Via.refl e88 o_lead_87 (g := (mkF m 46 #[.val (.ref a), .val (.int d), .val (.int (((0 : Int32) + (1 : Int32)) + (1 : Int32))), .val (.int (((0 : Int32) + (1 : Int32)) + (1 : Int32)))] [(.ref a), (.int (((0 : Int32) + (1 : Int32)) + (1 : Int32))), (.ref ll)])) rfl rfl (hb hby d11_46)
        refine own_go st89 ?_
        refine own_go (fun _ => XS.iloadN X89.here hx rfl (hb hby d11_49) rfl) ?_
        refine own_go (own_ldJ X89 hx hZ e89 l_A_87 (g := (mkF m 50 #[.val (.ref a), .val (.int d), .val (.int (((0 : Int32) + (1 : Int32)) + (1 : Int32))), .val (.int (((0 : Int32) + (1 : Int32)) + (1 : Int32)))] [(.int (((0 : Int32) + (1 : Int32)) + (1 : Int32))), (.ref ll), (.int (((0 : Int32) + (1 : Int32)) + (1 : Int32))), (.ref ll)])) rfl rfl (hb hby d11_50) 2 (by decide) (x := (.long u2)) (by rw [List.getElem?_set_ne (by decide)]; rw [List.getElem?_set_ne (by decide)]; exact vl2)) ?_
        obtain ⟨T90, h90, X90, e90, W90, A90, st90⟩ := own_stJ X89 hx hZ e89 l_A_87 (g := (mkF m 51 #[.val (.ref a), .val (.int d), .val (.int (((0 : Int32) + (1 : Int32)) + (1 : Int32))), .val (.int (((0 : Int32) + (1 : Int32)) + (1 : Int32)))] [(.long u2), (.int (((0 : Int32) + (1 : Int32)) + (1 : Int32))), (.ref ll)])) rfl rfl (hb hby d11_51) 2 (by decide) (by simp [lL])
        have N90 := Fr.snoc X90 N87 gl
        have o_E_90 := o_E_87.wr W90
        have o_from_90 := o_from_87.other W90 (Or.inl ne_a_ll)
        have o_lead_90 := o_lead_87.other W90 (Or.inl ne_a_ll)
        have o_member_90 := o_member_87.other W90 (Or.inl ne_a_ll)
        have o_start_90 := o_start_87.other W90 (Or.inl ne_a_ll)
        have o_end_90 := o_end_87.other W90 (Or.inl ne_a_ll)
        have f_A_90 := A87.other W90 ne_ff_ll
        have k_A_90 := k_A_87.other W90 (Ne.symm ne_ll_kk)
        have K90 := K87.wr W90 (Or.inl (List.mem_of_getElem? (i := 2) rfl))
        refine own_go st90 ?_
        show own_Go p e below _ (T90.setTop (mkF m 52 #[.val (.ref a), .val (.int d), .val (.int (((0 : Int32) + (1 : Int32)) + (1 : Int32))), .val (.int (((0 : Int32) + (1 : Int32)) + (1 : Int32)))] []))
        refine own_go (fun _ => XS.aloadN X90.here hx rfl (hb hby d11_52) rfl rfl) ?_
        obtain ⟨T91, X91, e91, st91⟩ := getF X90 hx hZ hown (host := "") (Or.inl (hw _ (List.mem_of_getElem? (i := 15) rfl))) Via.refl e90 o_member_90 (g := (mkF m 53 #[.val (.ref a), .val (.int d), .val (.int (((0 : Int32) + (1 : Int32)) + (1 : Int32))), .val (.int (((0 : Int32) + (1 : Int32)) + (1 : Int32)))] [(.ref a)])) rfl rfl (hb hby d11_53)
        refine own_go st91 ?_
        refine own_go (fun _ => XS.iloadN X91.here hx rfl (hb hby d11_56) rfl) ?_
        refine own_go (fun _ => XS.aloadN X91.here hx rfl (hb hby d11_57) rfl rfl) ?_
        show own_Go p e below _ (T91.setTop (mkF m 58 #[.val (.ref a), .val (.int d), .val (.int (((0 : Int32) + (1 : Int32)) + (1 : Int32))), .val (.int (((0 : Int32) + (1 : Int32)) + (1 : Int32)))] [(.ref a), (.int (((0 : Int32) + (1 : Int32)) + (1 : Int32))), (.ref kk)]))
        obtain ⟨T92, X92, e92, st92⟩ := getF X91 hx hZ hown (host := "") (Or.inl (hw _ (List.mem_of_getElem? (i := 15) rfl))) Via.refl e91 o_member_90 (g := (mkF m 58 #[.val (.ref a), .val (.int d), .val (.int (((0 : Int32) + (1 : Int32)) + (1 : Int32))), .val (.int (((0 : Int32) + (1 : Int32)) + (1 : Int32)))] [(.ref a), (.int (((0 : Int32) + (1 : Int32)) + (1 : Int32))), (.ref kk)])) rfl rfl (hb hby d11_58)
        refine own_go st92 ?_
        refine own_go (fun _ => XS.iloadN X92.here hx rfl (hb hby d11_61) rfl) ?_
        refine own_go (own_ldI X92 hx hZ e92 k_A_90 (g := (mkF m 62 #[.val (.ref a), .val (.int d), .val (.int (((0 : Int32) + (1 : Int32)) + (1 : Int32))), .val (.int (((0 : Int32) + (1 : Int32)) + (1 : Int32)))] [(.int (((0 : Int32) + (1 : Int32)) + (1 : Int32))), (.ref kk), (.int (((0 : Int32) + (1 : Int32)) + (1 : Int32))), (.ref kk)])) rfl rfl (hb hby d11_62) 2 (by decide) (x := (.int k2)) (by rw [List.getElem?_set_ne (by decide)]; rw [List.getElem?_set_ne (by decide)]; exact vk2)) ?_
        obtain ⟨T93, h93, X93, e93, W93, A93, st93⟩ := own_stI X92 hx hZ e92 k_A_90 (g := (mkF m 63 #[.val (.ref a), .val (.int d), .val (.int (((0 : Int32) + (1 : Int32)) + (1 : Int32))), .val (.int (((0 : Int32) + (1 : Int32)) + (1 : Int32)))] [(.int k2), (.int (((0 : Int32) + (1 : Int32)) + (1 : Int32))), (.ref kk)])) rfl rfl (hb hby d11_63) 2 (by decide) (by simp [lk])
        have N93 := Fr.snoc X93 N90 gk
        have o_E_93 := o_E_90.wr W93
        have o_from_93 := o_from_90.other W93 (Or.inl ne_a_kk)
        have o_lead_93 := o_lead_90.other W93 (Or.inl ne_a_kk)
        have o_member_93 := o_member_90.other W93 (Or.inl ne_a_kk)
        have o_start_93 := o_start_90.other W93 (Or.inl ne_a_kk)
        have o_end_93 := o_end_90.other W93 (Or.inl ne_a_kk)
        have f_A_93 := f_A_90.other W93 ne_ff_kk
        have l_A_93 := A90.other W93 ne_ll_kk
        have K93 := K90.wr W93 (Or.inl (List.mem_of_getElem? (i := 3) rfl))
        refine own_go st93 ?_
        show own_Go p e below _ (T93.setTop (mkF m 64 #[.val (.ref a), .val (.int d), .val (.int (((0 : Int32) + (1 : Int32)) + (1 : Int32))), .val (.int (((0 : Int32) + (1 : Int32)) + (1 : Int32)))] []))
        refine own_go (fun _ => XT.iincV X93.here hx rfl (1 : Int32) (hb hby d11_64) rfl rfl (l' := #[.val (.ref a), .val (.int d), .val (.int ((((0 : Int32) + (1 : Int32)) + (1 : Int32)) + (1 : Int32))), .val (.int (((0 : Int32) + (1 : Int32)) + (1 : Int32)))]) rfl) ?_
        refine own_go (fun _ => XT.iincV X93.here hx rfl (1 : Int32) (hb hby d11_67) rfl rfl (l' := #[.val (.ref a), .val (.int d), .val (.int ((((0 : Int32) + (1 : Int32)) + (1 : Int32)) + (1 : Int32))), .val (.int ((((0 : Int32) + (1 : Int32)) + (1 : Int32)) + (1 : Int32)))]) rfl) ?_
        refine own_go (fun _ => XS.goto X93.here hx rfl (pc0 := 70) (pc' := 10) rfl (hb hby d11_70) (by decide) (by decide)) ?_
        refine own_go (fun _ => XS.iloadN X93.here hx rfl (hb hby d11_10) rfl) ?_
        show own_Go p e below _ (T93.setTop (mkF m 11 #[.val (.ref a), .val (.int d), .val (.int ((((0 : Int32) + (1 : Int32)) + (1 : Int32)) + (1 : Int32))), .val (.int ((((0 : Int32) + (1 : Int32)) + (1 : Int32)) + (1 : Int32)))] [(.int ((((0 : Int32) + (1 : Int32)) + (1 : Int32)) + (1 : Int32)))]))
        refine own_go (fun _ => XS.aloadN X93.here hx rfl (hb hby d11_11) rfl rfl) ?_
        obtain ⟨T94, X94, e94, st94⟩ := getF X93 hx hZ hown (host := "") (Or.inl (hw _ (List.mem_of_getElem? (i := 48) rfl))) Via.refl e93 o_end_93 (g := (mkF m 12 #[.val (.ref a), .val (.int d), .val (.int ((((0 : Int32) + (1 : Int32)) + (1 : Int32)) + (1 : Int32))), .val (.int ((((0 : Int32) + (1 : Int32)) + (1 : Int32)) + (1 : Int32)))] [(.ref a), (.int ((((0 : Int32) + (1 : Int32)) + (1 : Int32)) + (1 : Int32)))])) rfl rfl (hb hby d11_12)
        refine own_go st94 ?_
        refine own_go (fun _ => XS.icmpYes X94.here hx rfl (pc0 := 15) (pc' := 73) rfl (hb hby d11_15) rfl (XT.ii_ge_t (by decide)) (by decide) (by decide)) ?_
        refine own_go (fun _ => XS.aloadN X94.here hx rfl (hb hby d11_73) rfl rfl) ?_
        show own_Go p e below _ (T94.setTop (mkF m 74 #[.val (.ref a), .val (.int d), .val (.int ((((0 : Int32) + (1 : Int32)) + (1 : Int32)) + (1 : Int32))), .val (.int ((((0 : Int32) + (1 : Int32)) + (1 : Int32)) + (1 : Int32)))] [(.ref a)]))
        refine own_go (fun _ => XS.iloadN X94.here hx rfl (hb hby d11_74) rfl) ?_
        obtain ⟨T95, h95, X95, e95, W95, st95⟩ := putF X94 hx hZ hown (host := "") (Or.inl (hw _ (List.mem_of_getElem? (i := 48) rfl))) Via.refl e94 o_end_93 o_E_93 (Or.inl (hw _ (List.mem_of_getElem? (i := 49) rfl))) (hw _ (List.mem_of_getElem? (i := 1) rfl)) (ty := .int) (by decide) rfl rfl (g := (mkF m 75 #[.val (.ref a), .val (.int d), .val (.int ((((0 : Int32) + (1 : Int32)) + (1 : Int32)) + (1 : Int32))), .val (.int ((((0 : Int32) + (1 : Int32)) + (1 : Int32)) + (1 : Int32)))] [(.int ((((0 : Int32) + (1 : Int32)) + (1 : Int32)) + (1 : Int32))), (.ref a)])) rfl rfl (hb hby d11_75)
        have N95 := Fr.snoc X95 N93 ga
        have o_E_95 := o_E_93.wr W95
        have o_from_95 := o_from_93.other W95 (Or.inr (slot_ne (t := (.array .long)) (t' := .int) (Or.inl (hw _ (List.mem_of_getElem? (i := 11) rfl))) (Or.inl (hw _ (List.mem_of_getElem? (i := 49) rfl))) (by decide) (by decide) (by decide)))
        have o_lead_95 := o_lead_93.other W95 (Or.inr (slot_ne (t := (.array .long)) (t' := .int) (Or.inl (hw _ (List.mem_of_getElem? (i := 13) rfl))) (Or.inl (hw _ (List.mem_of_getElem? (i := 49) rfl))) (by decide) (by decide) (by decide)))
        have o_member_95 := o_member_93.other W95 (Or.inr (slot_ne (t := (.array .int)) (t' := .int) (Or.inl (hw _ (List.mem_of_getElem? (i := 16) rfl))) (Or.inl (hw _ (List.mem_of_getElem? (i := 49) rfl))) (by decide) (by decide) (by decide)))
        have o_start_95 := o_start_93.other W95 (Or.inr (slot_ne (t := .int) (t' := .int) (Or.inl (hw _ (List.mem_of_getElem? (i := 55) rfl))) (Or.inl (hw _ (List.mem_of_getElem? (i := 49) rfl))) (by decide) (by decide) (by decide)))
        have o_end_95 := o_end_93.same W95
        have f_A_95 := f_A_93.other W95 (Ne.symm ne_a_ff)
        have l_A_95 := l_A_93.other W95 (Ne.symm ne_a_ll)
        have k_A_95 := A93.other W95 (Ne.symm ne_a_kk)
        have K95 := K93.wr W95 (Or.inl (List.mem_of_getElem? (i := 0) rfl))
        refine own_go st95 ?_
        have ek : own_keep d [(f0, u0, k0), (f1, u1, k1), (f2, u2, k2)] = [(f0, u0, k0), (f1, u1, k1), (f2, u2, k2)] := by simp [own_keep, hk0, hk1, hk2]
        rw [ek]
        have own_en0 : own_En fs ls ks [] := fun i e q => by cases i <;> simp at q
        exact own_vret X95 hx hlk hret (hb hby d11_78) (by decide) (by decide) (by rw [e95]; exact ⟨rfl, N95, K95, _, _, _, ⟨⟨o_E_95, f_A_95, l_A_95, k_A_95⟩, ⟨o_from_95, o_lead_95, o_member_95, o_start_95, o_end_95⟩, ⟨ne_a_ff, ne_a_ll, ne_a_kk, ne_ff_ll, ne_ff_kk, ne_ll_kk⟩⟩, (((own_en0.set 0 rfl (by simp [lf]) (by simp [lL]) (by simp [lk]) (f0, u0, k0)).set 1 rfl (by simp [lf]) (by simp [lL]) (by simp [lk]) (f1, u1, k1)).set 2 rfl (by simp [lf]) (by simp [lL]) (by simp [lk]) (f2, u2, k2)), by simp [lf], by simp [lL], by simp [lk]⟩)
/-- what 'stamp' answers over the entries E, the proposed being the least stamp -/
def own_ans (E : List (Int64 × Int64 × Int32)) (q : Int64) : Int64 × Int32 :=
  match E with
  | [] => ((-9223372036854775808 : Int64), 0)
  | [e0] => if q < e0.1 then ((-9223372036854775808 : Int64), 0) else (q + e0.2.1, e0.2.2)
  | [e0, e1] => if q < e0.1 then ((-9223372036854775808 : Int64), 0) else if q < e1.1 then (q + e0.2.1, e0.2.2) else (q + e1.2.1, e1.2.2)
  | e0 :: e1 :: e2 :: _ => if q < e1.1 then (if q < e0.1 then ((-9223372036854775808 : Int64), 0) else (q + e0.2.1, e0.2.2)) else if q < e2.1 then (q + e1.2.1, e1.2.2) else (q + e2.2.1, e2.2.2)
theorem d12_0 : decode prog_79_method_3_code 0 = .ok (.aload_n 3, 1) := by decide +kernel
theorem d12_1 : decode prog_79_method_3_code 1 = .ok (.astore 4, 2) := by decide +kernel
theorem d12_3 : decode prog_79_method_3_code 3 = .ok (.aload_n 0, 1) := by decide +kernel
theorem d12_4 : decode prog_79_method_3_code 4 = .ok (.lload_n 1, 1) := by decide +kernel
theorem d12_5 : decode prog_79_method_3_code 5 = .ok (.invokevirtual 36, 3) := by decide +kernel
theorem d12_8 : decode prog_79_method_3_code 8 = .ok (.istore 5, 2) := by decide +kernel
theorem d12_10 : decode prog_79_method_3_code 10 = .ok (.iload 5, 2) := by decide +kernel
theorem d12_12 : decode prog_79_method_3_code 12 = .ok (.aload_n 0, 1) := by decide +kernel
theorem d12_13 : decode prog_79_method_3_code 13 = .ok (.getfield 40, 3) := by decide +kernel
theorem d12_16 : decode prog_79_method_3_code 16 = .ok (.if_icmp .lt 45, 3) := by decide +kernel
theorem d12_19 : decode prog_79_method_3_code 19 = .ok (.new 21, 3) := by decide +kernel
theorem d12_22 : decode prog_79_method_3_code 22 = .ok (.dup, 1) := by decide +kernel
theorem d12_23 : decode prog_79_method_3_code 23 = .ok (.lload_n 1, 1) := by decide +kernel
theorem d12_24 : decode prog_79_method_3_code 24 = .ok (.aload_n 0, 1) := by decide +kernel
theorem d12_25 : decode prog_79_method_3_code 25 = .ok (.getfield 13, 3) := by decide +kernel
theorem d12_28 : decode prog_79_method_3_code 28 = .ok (.iload 5, 2) := by decide +kernel
theorem d12_30 : decode prog_79_method_3_code 30 = .ok (.laload, 1) := by decide +kernel
theorem d12_31 : decode prog_79_method_3_code 31 = .ok (.ladd, 1) := by decide +kernel
theorem d12_32 : decode prog_79_method_3_code 32 = .ok (.aload_n 0, 1) := by decide +kernel
theorem d12_33 : decode prog_79_method_3_code 33 = .ok (.getfield 16, 3) := by decide +kernel
theorem d12_36 : decode prog_79_method_3_code 36 = .ok (.iload 5, 2) := by decide +kernel
theorem d12_38 : decode prog_79_method_3_code 38 = .ok (.iaload, 1) := by decide +kernel
theorem d12_39 : decode prog_79_method_3_code 39 = .ok (.invokespecial 53, 3) := by decide +kernel
theorem d12_42 : decode prog_79_method_3_code 42 = .ok (.astore 6, 2) := by decide +kernel
theorem d12_44 : decode prog_79_method_3_code 44 = .ok (.aload 6, 2) := by decide +kernel
theorem d12_46 : decode prog_79_method_3_code 46 = .ok (.aload_n 3, 1) := by decide +kernel
theorem d12_47 : decode prog_79_method_3_code 47 = .ok (.invokevirtual 56, 3) := by decide +kernel
theorem d12_50 : decode prog_79_method_3_code 50 = .ok (.ifCond .eq 8, 3) := by decide +kernel
theorem d12_53 : decode prog_79_method_3_code 53 = .ok (.aload 6, 2) := by decide +kernel
theorem d12_55 : decode prog_79_method_3_code 55 = .ok (.goto 4, 3) := by decide +kernel
theorem d12_59 : decode prog_79_method_3_code 59 = .ok (.astore 4, 2) := by decide +kernel
theorem d12_61 : decode prog_79_method_3_code 61 = .ok (.aload 4, 2) := by decide +kernel
theorem d12_63 : decode prog_79_method_3_code 63 = .ok (.areturn, 1) := by decide +kernel
set_option maxRecDepth 65536 in
set_option maxHeartbeats 40000000 in
theorem own_stamp0_con (l : Launch) (Z : State) (a0 : Array Value) (hw : ∀ d ∈ tables_1, d.before a0 Z = true) (a ff ll kk lo : Addr) (q : Int64) (n0 : Nat) (h0 : Heap) (J0 : own_St Z h0 a ff ll kk [] 0) (S0 : own_Stamp Z h0 lo (-9223372036854775808 : Int64) 0)  (gn : n0 ≤ h0.size) (ws : List Jvm.Cond) :
    own_Con l Z (⟨"tidemark/protocol/Raises", "stamp", "(JLtidemark/model/Stamp;)Ltidemark/model/Stamp;"⟩ : MethodName) prog_79_method_3_code 7 (some (.object "tidemark/model/Stamp")) ({ frames := 3, cells := 1, slots := 2, locals := 100 } : Room) #[(.ref a), (.long q), (.ref lo)] h0 (fun v h L => ∃ r, v = some (.ref r) ∧ Fr n0 L ∧ Keep h0 h [] ∧ own_Stamp Z h r (own_ans [] q).1 (own_ans [] q).2) ws := by
  refine own_con (F := fun m => (mkF m 0 #[.val (.ref a), .val (.long q), .second, .val (.ref lo), .unset, .unset, .unset] [])) (own_pn (by first | (simp [plainName, overriddenIn]; done) | decide +kernel)) (fun m => by first | (simp [entryFrame, mkF, argsToLocals, Value.category]; done) | rfl) ?_
  intro p e s m below meth c T X hx hby hml hZ hown hnm hret hlk eT
  show own_Go p e below (own_Out s (fun v h L => ∃ r, v = some (.ref r) ∧ Fr n0 L ∧ Keep h0 h [] ∧ own_Stamp Z h r (own_ans [] q).1 (own_ans [] q).2) ({ frames := 3, cells := 1, slots := 2, locals := 100 } : Room).cells ({ frames := 3, cells := 1, slots := 2, locals := 100 } : Room).slots) (T.setTop (mkF m 0 #[.val (.ref a), .val (.long q), .second, .val (.ref lo), .unset, .unset, .unset] []))
  obtain ⟨fs, ls, ks, I0, HE, lf, lL, lk⟩ := J0
  have I1 := I0
  obtain ⟨⟨o_E0, f_A0, l_A0, k_A0⟩, ⟨o_from0, o_lead0, o_member0, o_start0, o_end0⟩, ⟨ne_a_ff, ne_a_ll, ne_a_kk, ne_ff_ll, ne_ff_kk, ne_ll_kk⟩⟩ := I0
  have N0 := Fr.nil n0
  have K0 := Keep.refl h0 []
  refine own_go (fun _ => XS.aloadN X.here hx rfl (hb hby d12_0) rfl rfl) ?_
  refine own_go (fun _ => XS.astore X.here hx rfl (hb hby d12_1) rfl rfl (l' := #[.val (.ref a), .val (.long q), .second, .val (.ref lo), .val (.ref lo), .unset, .unset]) rfl) ?_
  refine own_go (fun _ => XS.aloadN X.here hx rfl (hb hby d12_3) rfl rfl) ?_
  refine own_go (fun _ => XT.lloadN X.here hx rfl (hb hby d12_4) rfl) ?_
  show own_Go p e below _ (T.setTop (mkF m 5 #[.val (.ref a), .val (.long q), .second, .val (.ref lo), .val (.ref lo), .unset, .unset] [(.long q), (.ref a)]))
  obtain ⟨_, T1, L1, X1, ⟨rfl, eh1, rfl⟩, st1⟩ := own_callP X hx hZ hown (argsL := [(.long q)]) (rest := []) (own_floor0_con l Z a0 hw a ff ll kk fs ls ks q  h0 I1  []) eT o_E0 (hw _ (List.mem_of_getElem? (i := 50) rfl)) (hw _ (List.mem_of_getElem? (i := 51) rfl)) (hw _ (List.mem_of_getElem? (i := 52) rfl)) (hw _ (List.mem_of_getElem? (i := 1) rfl)) (hw _ (List.mem_of_getElem? (i := 2) rfl)) (hw _ (List.mem_of_getElem? (i := 53) rfl)) (by decide) (by decide +kernel : parseMethodDescriptor "(J)I" = some ⟨[.long], some .int⟩) rfl (g := (mkF m 5 #[.val (.ref a), .val (.long q), .second, .val (.ref lo), .val (.ref lo), .unset, .unset] [(.long q), (.ref a)])) rfl (by rw [hml]; rfl) rfl 0 (by show 2 * 0 + _ ≤ _; exact Nat.le_of_eq rfl) (hb hby d12_5) (by decide) (by decide) (by decide) (by decide)
  rw [List.append_nil] at X1
  refine own_go st1 ?_
  have ef : (-1 : Int32) = (-1 : Int32) := by rfl
  show own_Go p e below _ (T1.setTop (mkF m 8 #[.val (.ref a), .val (.long q), .second, .val (.ref lo), .val (.ref lo), .unset, .unset] [(.int (-1 : Int32))]))
  rw [ef]
  refine own_go (fun _ => XS.istore X1.here hx rfl (hb hby d12_8) rfl (l' := #[.val (.ref a), .val (.long q), .second, .val (.ref lo), .val (.ref lo), .val (.int (-1 : Int32)), .unset]) rfl) ?_
  refine own_go (fun _ => XS.iload X1.here hx rfl (hb hby d12_10) rfl) ?_
  refine own_go (fun _ => XS.aloadN X1.here hx rfl (hb hby d12_12) rfl rfl) ?_
  show own_Go p e below _ (T1.setTop (mkF m 13 #[.val (.ref a), .val (.long q), .second, .val (.ref lo), .val (.ref lo), .val (.int (-1 : Int32)), .unset] [(.ref a), (.int (-1 : Int32))]))
  obtain ⟨T2, X2, e2, st2⟩ := getF X1 hx hZ hown (host := "") (Or.inl (hw _ (List.mem_of_getElem? (i := 54) rfl))) Via.refl eh1 o_start0 (g := (mkF m 13 #[.val (.ref a), .val (.long q), .second, .val (.ref lo), .val (.ref lo), .val (.int (-1 : Int32)), .unset] [(.ref a), (.int (-1 : Int32))])) rfl rfl (hb hby d12_13)
  refine own_go st2 ?_
  have ea : own_ans [] q = ((-9223372036854775808 : Int64), 0) := by rfl
  rw [ea]
  refine own_go (fun _ => XS.icmpYes X2.here hx rfl (pc0 := 16) (pc' := 61) rfl (hb hby d12_16) rfl (XT.ii_lt_t (by decide)) (by decide) (by decide)) ?_
  refine own_go (fun _ => XS.aload X2.here hx rfl (hb hby d12_61) rfl rfl) ?_
  exact own_aret X2 hx hlk hret rfl rfl (hb hby d12_63) (by decide) (by decide) (by rw [e2]; exact ⟨lo, rfl, N0, K0, S0⟩)
set_option maxRecDepth 65536 in
set_option maxHeartbeats 40000000 in
theorem own_stamp1_con (l : Launch) (Z : State) (a0 : Array Value) (hw : ∀ d ∈ tables_1, d.before a0 Z = true) (a ff ll kk lo : Addr) (q : Int64) (y0 : Int64 × Int64 × Int32) (n0 : Nat) (h0 : Heap) (J0 : own_St Z h0 a ff ll kk [y0] 1) (S0 : own_Stamp Z h0 lo (-9223372036854775808 : Int64) 0) (p0 : (-9223372036854775808 : Int64) < q + y0.2.1) (gn : n0 ≤ h0.size) (ws : List Jvm.Cond) :
    own_Con l Z (⟨"tidemark/protocol/Raises", "stamp", "(JLtidemark/model/Stamp;)Ltidemark/model/Stamp;"⟩ : MethodName) prog_79_method_3_code 7 (some (.object "tidemark/model/Stamp")) ({ frames := 3, cells := 1, slots := 2, locals := 100 } : Room) #[(.ref a), (.long q), (.ref lo)] h0 (fun v h L => ∃ r, v = some (.ref r) ∧ Fr n0 L ∧ Keep h0 h [] ∧ own_Stamp Z h r (own_ans [y0] q).1 (own_ans [y0] q).2) ws := by
  refine own_con (F := fun m => (mkF m 0 #[.val (.ref a), .val (.long q), .second, .val (.ref lo), .unset, .unset, .unset] [])) (own_pn (by first | (simp [plainName, overriddenIn]; done) | decide +kernel)) (fun m => by first | (simp [entryFrame, mkF, argsToLocals, Value.category]; done) | rfl) ?_
  intro p e s m below meth c T X hx hby hml hZ hown hnm hret hlk eT
  show own_Go p e below (own_Out s (fun v h L => ∃ r, v = some (.ref r) ∧ Fr n0 L ∧ Keep h0 h [] ∧ own_Stamp Z h r (own_ans [y0] q).1 (own_ans [y0] q).2) ({ frames := 3, cells := 1, slots := 2, locals := 100 } : Room).cells ({ frames := 3, cells := 1, slots := 2, locals := 100 } : Room).slots) (T.setTop (mkF m 0 #[.val (.ref a), .val (.long q), .second, .val (.ref lo), .unset, .unset, .unset] []))
  obtain ⟨fs, ls, ks, I0, HE, lf, lL, lk⟩ := J0
  have I1 := I0
  obtain ⟨⟨o_E0, f_A0, l_A0, k_A0⟩, ⟨o_from0, o_lead0, o_member0, o_start0, o_end0⟩, ⟨ne_a_ff, ne_a_ll, ne_a_kk, ne_ff_ll, ne_ff_kk, ne_ll_kk⟩⟩ := I0
  have N0 := Fr.nil n0
  have K0 := Keep.refl h0 []
  obtain ⟨vf0, vl0, vk0⟩ := HE 0 y0 rfl
  refine own_go (fun _ => XS.aloadN X.here hx rfl (hb hby d12_0) rfl rfl) ?_
  refine own_go (fun _ => XS.astore X.here hx rfl (hb hby d12_1) rfl rfl (l' := #[.val (.ref a), .val (.long q), .second, .val (.ref lo), .val (.ref lo), .unset, .unset]) rfl) ?_
  refine own_go (fun _ => XS.aloadN X.here hx rfl (hb hby d12_3) rfl rfl) ?_
  refine own_go (fun _ => XT.lloadN X.here hx rfl (hb hby d12_4) rfl) ?_
  show own_Go p e below _ (T.setTop (mkF m 5 #[.val (.ref a), .val (.long q), .second, .val (.ref lo), .val (.ref lo), .unset, .unset] [(.long q), (.ref a)]))
  obtain ⟨_, T1, L1, X1, ⟨rfl, eh1, rfl⟩, st1⟩ := own_callP X hx hZ hown (argsL := [(.long q)]) (rest := []) (own_floor1_con l Z a0 hw a ff ll kk fs ls ks q y0.1 h0 I1 vf0 []) eT o_E0 (hw _ (List.mem_of_getElem? (i := 50) rfl)) (hw _ (List.mem_of_getElem? (i := 51) rfl)) (hw _ (List.mem_of_getElem? (i := 52) rfl)) (hw _ (List.mem_of_getElem? (i := 1) rfl)) (hw _ (List.mem_of_getElem? (i := 2) rfl)) (hw _ (List.mem_of_getElem? (i := 53) rfl)) (by decide) (by decide +kernel : parseMethodDescriptor "(J)I" = some ⟨[.long], some .int⟩) rfl (g := (mkF m 5 #[.val (.ref a), .val (.long q), .second, .val (.ref lo), .val (.ref lo), .unset, .unset] [(.long q), (.ref a)])) rfl (by rw [hml]; rfl) rfl 0 (by show 2 * 0 + _ ≤ _; exact Nat.le_of_eq rfl) (hb hby d12_5) (by decide) (by decide) (by decide) (by decide)
  rw [List.append_nil] at X1
  refine own_go st1 ?_
  by_cases hc0 : q < y0.1
  · skip
    have ef : (if q < y0.1 then (-1 : Int32) else 0) = (-1 : Int32) := by simp only [hc0, if_true, if_false]
    show own_Go p e below _ (T1.setTop (mkF m 8 #[.val (.ref a), .val (.long q), .second, .val (.ref lo), .val (.ref lo), .unset, .unset] [(.int (if q < y0.1 then (-1 : Int32) else 0))]))
    rw [ef]
    refine own_go (fun _ => XS.istore X1.here hx rfl (hb hby d12_8) rfl (l' := #[.val (.ref a), .val (.long q), .second, .val (.ref lo), .val (.ref lo), .val (.int (-1 : Int32)), .unset]) rfl) ?_
    refine own_go (fun _ => XS.iload X1.here hx rfl (hb hby d12_10) rfl) ?_
    refine own_go (fun _ => XS.aloadN X1.here hx rfl (hb hby d12_12) rfl rfl) ?_
    show own_Go p e below _ (T1.setTop (mkF m 13 #[.val (.ref a), .val (.long q), .second, .val (.ref lo), .val (.ref lo), .val (.int (-1 : Int32)), .unset] [(.ref a), (.int (-1 : Int32))]))
    obtain ⟨T2, X2, e2, st2⟩ := getF X1 hx hZ hown (host := "") (Or.inl (hw _ (List.mem_of_getElem? (i := 54) rfl))) Via.refl eh1 o_start0 (g := (mkF m 13 #[.val (.ref a), .val (.long q), .second, .val (.ref lo), .val (.ref lo), .val (.int (-1 : Int32)), .unset] [(.ref a), (.int (-1 : Int32))])) rfl rfl (hb hby d12_13)
    refine own_go st2 ?_
    have ea : own_ans [y0] q = ((-9223372036854775808 : Int64), 0) := by simp only [own_ans, hc0, if_true, if_false]
    rw [ea]
    refine own_go (fun _ => XS.icmpYes X2.here hx rfl (pc0 := 16) (pc' := 61) rfl (hb hby d12_16) rfl (XT.ii_lt_t (by decide)) (by decide) (by decide)) ?_
    refine own_go (fun _ => XS.aload X2.here hx rfl (hb hby d12_61) rfl rfl) ?_
    exact own_aret X2 hx hlk hret rfl rfl (hb hby d12_63) (by decide) (by decide) (by rw [e2]; exact ⟨lo, rfl, N0, K0, S0⟩)
  · skip
    have ef : (if q < y0.1 then (-1 : Int32) else 0) = (0 : Int32) := by simp only [hc0, if_true, if_false]
    show own_Go p e below _ (T1.setTop (mkF m 8 #[.val (.ref a), .val (.long q), .second, .val (.ref lo), .val (.ref lo), .unset, .unset] [(.int (if q < y0.1 then (-1 : Int32) else 0))]))
    rw [ef]
    refine own_go (fun _ => XS.istore X1.here hx rfl (hb hby d12_8) rfl (l' := #[.val (.ref a), .val (.long q), .second, .val (.ref lo), .val (.ref lo), .val (.int (0 : Int32)), .unset]) rfl) ?_
    refine own_go (fun _ => XS.iload X1.here hx rfl (hb hby d12_10) rfl) ?_
    refine own_go (fun _ => XS.aloadN X1.here hx rfl (hb hby d12_12) rfl rfl) ?_
    show own_Go p e below _ (T1.setTop (mkF m 13 #[.val (.ref a), .val (.long q), .second, .val (.ref lo), .val (.ref lo), .val (.int (0 : Int32)), .unset] [(.ref a), (.int (0 : Int32))]))
    obtain ⟨T3, X3, e3, st3⟩ := getF X1 hx hZ hown (host := "") (Or.inl (hw _ (List.mem_of_getElem? (i := 54) rfl))) Via.refl eh1 o_start0 (g := (mkF m 13 #[.val (.ref a), .val (.long q), .second, .val (.ref lo), .val (.ref lo), .val (.int (0 : Int32)), .unset] [(.ref a), (.int (0 : Int32))])) rfl rfl (hb hby d12_13)
    refine own_go st3 ?_
    have ea : own_ans [y0] q = (q + y0.2.1, y0.2.2) := by simp only [own_ans, hc0, if_true, if_false]
    rw [ea]
    refine own_go (fun _ => XS.icmpNo X3.here hx rfl (hb hby d12_16) rfl (XT.ii_lt_f (by decide))) ?_
    have lo_E0 := S0.1
    obtain ⟨T4, h4, X4, e4, E4, C4, D4, -, st4⟩ := newO X3 hx hZ hown (hw _ (List.mem_of_getElem? (i := 81) rfl)) (hw _ (List.mem_of_getElem? (i := 18) rfl)) (hw _ (List.mem_of_getElem? (i := 19) rfl)) e3 (g := (mkF m 19 #[.val (.ref a), .val (.long q), .second, .val (.ref lo), .val (.ref lo), .val (.int (0 : Int32)), .unset] [])) rfl (hb hby d12_19) (by decide) (by decide)
    obtain ⟨a4, q4⟩ : ∃ z, z = h0.size := ⟨_, rfl⟩
    rw [← q4] at C4 D4 st4
    have ne_a_a4 : a ≠ a4 := fun z => absurd o_E0.lt (by rw [z, q4]; exact Nat.lt_irrefl _)
    have ne_ff_a4 : ff ≠ a4 := fun z => absurd f_A0.lt (by rw [z, q4]; exact Nat.lt_irrefl _)
    have ne_kk_a4 : kk ≠ a4 := fun z => absurd k_A0.lt (by rw [z, q4]; exact Nat.lt_irrefl _)
    have ne_ll_a4 : ll ≠ a4 := fun z => absurd l_A0.lt (by rw [z, q4]; exact Nat.lt_irrefl _)
    have ne_lo_a4 : lo ≠ a4 := fun z => absurd lo_E0.lt (by rw [z, q4]; exact Nat.lt_irrefl _)
    have o_E_4 := o_E0.ext E4
    have o_from_4 := o_from0.ext E4
    have o_lead_4 := o_lead0.ext E4
    have o_member_4 := o_member0.ext E4
    have o_start_4 := o_start0.ext E4
    have o_end_4 := o_end0.ext E4
    have f_A_4 := f_A0.ext E4
    have l_A_4 := l_A0.ext E4
    have k_A_4 := k_A0.ext E4
    have lo_E_4 := lo_E0.ext E4
    have K4 := K0.ext E4
    have n_counter_4 := D4 (Or.inr (hw _ (List.mem_of_getElem? (i := 30) rfl))) (ty := .long) (by decide)
    have n_member_4 := D4 (Or.inr (hw _ (List.mem_of_getElem? (i := 32) rfl))) (ty := .int) (by decide)
    refine own_go st4 ?_
    have S1 := S0.ext E4
    have gna : n0 ≤ a4 := by rw [q4]; exact gn
    refine own_go (fun _ => XS.dup X4.here hx rfl (hb hby d12_22) rfl rfl) ?_
    show own_Go p e below _ (T4.setTop (mkF m 23 #[.val (.ref a), .val (.long q), .second, .val (.ref lo), .val (.ref lo), .val (.int (0 : Int32)), .unset] [(.ref a4), (.ref a4)]))
    refine own_go (fun _ => XT.lloadN X4.here hx rfl (hb hby d12_23) rfl) ?_
    refine own_go (fun _ => XS.aloadN X4.here hx rfl (hb hby d12_24) rfl rfl) ?_
    obtain ⟨T5, X5, e5, st5⟩ := getF X4 hx hZ hown (host := "") (Or.inl (hw _ (List.mem_of_getElem? (i := 12) rfl))) Via.refl e4 o_lead_4 (g := (mkF m 25 #[.val (.ref a), .val (.long q), .second, .val (.ref lo), .val (.ref lo), .val (.int (0 : Int32)), .unset] [(.ref a), (.long q), (.ref a4), (.ref a4)])) rfl rfl (hb hby d12_25)
    refine own_go st5 ?_
    refine own_go (fun _ => XS.iload X5.here hx rfl (hb hby d12_28) rfl) ?_
    show own_Go p e below _ (T5.setTop (mkF m 30 #[.val (.ref a), .val (.long q), .second, .val (.ref lo), .val (.ref lo), .val (.int (0 : Int32)), .unset] [(.int (0 : Int32)), (.ref ll), (.long q), (.ref a4), (.ref a4)]))
    refine own_go (own_ldJ X5 hx hZ e5 l_A_4 (g := (mkF m 30 #[.val (.ref a), .val (.long q), .second, .val (.ref lo), .val (.ref lo), .val (.int (0 : Int32)), .unset] [(.int (0 : Int32)), (.ref ll), (.long q), (.ref a4), (.ref a4)])) rfl rfl (hb hby d12_30) 0 (by decide) (x := (.long y0.2.1)) vl0) ?_
    refine own_go (fun _ => XT.ladd X5.here hx rfl (hb hby d12_31) rfl) ?_
    refine own_go (fun _ => XS.aloadN X5.here hx rfl (hb hby d12_32) rfl rfl) ?_
    obtain ⟨T6, X6, e6, st6⟩ := getF X5 hx hZ hown (host := "") (Or.inl (hw _ (List.mem_of_getElem? (i := 15) rfl))) Via.refl e5 o_member_4 (g := (mkF m 33 #[.val (.ref a), .val (.long q), .second, .val (.ref lo), .val (.ref lo), .val (.int (0 : Int32)), .unset] [(.ref a), (.long (q + y0.2.1)), (.ref a4), (.ref a4)])) rfl rfl (hb hby d12_33)
    refine own_go st6 ?_
    show own_Go p e below _ (T6.setTop (mkF m 36 #[.val (.ref a), .val (.long q), .second, .val (.ref lo), .val (.ref lo), .val (.int (0 : Int32)), .unset] [(.ref kk), (.long (q + y0.2.1)), (.ref a4), (.ref a4)]))
    refine own_go (fun _ => XS.iload X6.here hx rfl (hb hby d12_36) rfl) ?_
    refine own_go (own_ldI X6 hx hZ e6 k_A_4 (g := (mkF m 38 #[.val (.ref a), .val (.long q), .second, .val (.ref lo), .val (.ref lo), .val (.int (0 : Int32)), .unset] [(.int (0 : Int32)), (.ref kk), (.long (q + y0.2.1)), (.ref a4), (.ref a4)])) rfl rfl (hb hby d12_38) 0 (by decide) (x := (.int y0.2.2)) vk0) ?_
    obtain ⟨_, T7, L7, X7, ⟨rfl, Nc7, Kc7, S7⟩, st7⟩ := own_callI X6 hx hZ hown rfl (argsL := [(.long (q + y0.2.1)), (.int y0.2.2)]) (rest := [(.ref a4)]) (own_stampI_con l Z a0 hw a4 (q + y0.2.1) y0.2.2 n0 h4 C4 n_counter_4 n_member_4 gna []) e6 (hw _ (List.mem_of_getElem? (i := 82) rfl)) (hw _ (List.mem_of_getElem? (i := 21) rfl)) (hw _ (List.mem_of_getElem? (i := 19) rfl)) (hw _ (List.mem_of_getElem? (i := 22) rfl)) (by decide) (by decide +kernel : parseMethodDescriptor "(JI)V" = some ⟨[.long, .int], none⟩) rfl (g := (mkF m 39 #[.val (.ref a), .val (.long q), .second, .val (.ref lo), .val (.ref lo), .val (.int (0 : Int32)), .unset] [(.int y0.2.2), (.long (q + y0.2.1)), (.ref a4), (.ref a4)])) rfl (by rw [hml]; rfl) rfl 1 (by show 2 * 0 + _ ≤ _; exact Nat.le_of_eq rfl) (hb hby d12_39) (by decide) (by decide) (by decide) (by decide)
    have N7 := Fr.app N0 Nc7
    have o_E_7 := o_E_4.keep Kc7
    have o_from_7 := o_from_4.keep Kc7 (ninS ne_a_a4 nin0)
    have o_lead_7 := o_lead_4.keep Kc7 (ninS ne_a_a4 nin0)
    have o_member_7 := o_member_4.keep Kc7 (ninS ne_a_a4 nin0)
    have o_start_7 := o_start_4.keep Kc7 (ninS ne_a_a4 nin0)
    have o_end_7 := o_end_4.keep Kc7 (ninS ne_a_a4 nin0)
    have f_A_7 := f_A_4.keep Kc7 (ninS ne_ff_a4 nin0)
    have l_A_7 := l_A_4.keep Kc7 (ninS ne_ll_a4 nin0)
    have k_A_7 := k_A_4.keep Kc7 (ninS ne_kk_a4 nin0)
    have lo_E_7 := lo_E_4.keep Kc7
    have n_E_7 := C4.keep Kc7
    have K7 := K4.trans Kc7 (allS (Or.inr (Nat.le_of_eq q4.symm)) all0)
    refine own_go st7 ?_
    refine own_go (fun _ => XS.astore X7.here hx rfl (hb hby d12_42) rfl rfl (l' := #[.val (.ref a), .val (.long q), .second, .val (.ref lo), .val (.ref lo), .val (.int (0 : Int32)), .val (.ref a4)]) rfl) ?_
    show own_Go p e below _ (T7.setTop (mkF m 44 #[.val (.ref a), .val (.long q), .second, .val (.ref lo), .val (.ref lo), .val (.int (0 : Int32)), .val (.ref a4)] []))
    refine own_go (fun _ => XS.aload X7.here hx rfl (hb hby d12_44) rfl rfl) ?_
    refine own_go (fun _ => XS.aloadN X7.here hx rfl (hb hby d12_46) rfl rfl) ?_
    have S2 := S1.keep Kc7 (ninS ne_lo_a4 nin0)
    obtain ⟨_, T8, L8, X8, ⟨rfl, eh8, rfl⟩, st8⟩ := own_callV X7 hx hZ hown (argsL := [(.ref lo)]) (rest := []) (own_isAfter_con l Z a0 hw a4 lo (q + y0.2.1) (-9223372036854775808 : Int64) y0.2.2 0 T7.heap S7 S2 p0 []) rfl n_E_7 (hw _ (List.mem_of_getElem? (i := 83) rfl)) (hw _ (List.mem_of_getElem? (i := 84) rfl)) (hw _ (List.mem_of_getElem? (i := 86) rfl)) (hw _ (List.mem_of_getElem? (i := 85) rfl)) (hw _ (List.mem_of_getElem? (i := 19) rfl)) (hw _ (List.mem_of_getElem? (i := 87) rfl)) (notFace_of_selects (args := #[]) (mvT hZ (hw _ (List.mem_of_getElem? (i := 86) rfl)))) (by decide) (by decide +kernel : parseMethodDescriptor "(Ltidemark/model/Stamp;)Z" = some ⟨[(.object "tidemark/model/Stamp")], some .boolean⟩) rfl (g := (mkF m 47 #[.val (.ref a), .val (.long q), .second, .val (.ref lo), .val (.ref lo), .val (.int (0 : Int32)), .val (.ref a4)] [(.ref lo), (.ref a4)])) rfl (by rw [hml]; rfl) rfl 0 (by show 2 * 0 + _ ≤ _; exact Nat.le_of_eq rfl) (hb hby d12_47) (by decide) (by decide) (by decide) (by decide)
    rw [List.append_nil] at X8
    refine own_go st8 ?_
    refine own_go (fun _ => XS.ifNo X8.here hx rfl (hb hby d12_50) rfl (XT.i0_eq_f (by decide))) ?_
    show own_Go p e below _ (T8.setTop (mkF m 53 #[.val (.ref a), .val (.long q), .second, .val (.ref lo), .val (.ref lo), .val (.int (0 : Int32)), .val (.ref a4)] []))
    refine own_go (fun _ => XS.aload X8.here hx rfl (hb hby d12_53) rfl rfl) ?_
    refine own_go (fun _ => XS.goto X8.here hx rfl (pc0 := 55) (pc' := 59) rfl (hb hby d12_55) (by decide) (by decide)) ?_
    refine own_go (fun _ => XS.astore X8.here hx rfl (hb hby d12_59) rfl rfl (l' := #[.val (.ref a), .val (.long q), .second, .val (.ref lo), .val (.ref a4), .val (.int (0 : Int32)), .val (.ref a4)]) rfl) ?_
    refine own_go (fun _ => XS.aload X8.here hx rfl (hb hby d12_61) rfl rfl) ?_
    show own_Go p e below _ (T8.setTop (mkF m 63 #[.val (.ref a), .val (.long q), .second, .val (.ref lo), .val (.ref a4), .val (.int (0 : Int32)), .val (.ref a4)] [(.ref a4)]))
    exact own_aret X8 hx hlk hret rfl rfl (hb hby d12_63) (by decide) (by decide) (by rw [eh8]; exact ⟨_, rfl, N7, K7, S7⟩)
set_option maxRecDepth 65536 in
set_option maxHeartbeats 40000000 in
theorem own_stamp2_con (l : Launch) (Z : State) (a0 : Array Value) (hw : ∀ d ∈ tables_1, d.before a0 Z = true) (a ff ll kk lo : Addr) (q : Int64) (y0 y1 : Int64 × Int64 × Int32) (n0 : Nat) (h0 : Heap) (J0 : own_St Z h0 a ff ll kk [y0, y1] 2) (S0 : own_Stamp Z h0 lo (-9223372036854775808 : Int64) 0) (p0 : (-9223372036854775808 : Int64) < q + y0.2.1) (p1 : (-9223372036854775808 : Int64) < q + y1.2.1) (gn : n0 ≤ h0.size) (ws : List Jvm.Cond) :
    own_Con l Z (⟨"tidemark/protocol/Raises", "stamp", "(JLtidemark/model/Stamp;)Ltidemark/model/Stamp;"⟩ : MethodName) prog_79_method_3_code 7 (some (.object "tidemark/model/Stamp")) ({ frames := 3, cells := 1, slots := 2, locals := 100 } : Room) #[(.ref a), (.long q), (.ref lo)] h0 (fun v h L => ∃ r, v = some (.ref r) ∧ Fr n0 L ∧ Keep h0 h [] ∧ own_Stamp Z h r (own_ans [y0, y1] q).1 (own_ans [y0, y1] q).2) ws := by
  refine own_con (F := fun m => (mkF m 0 #[.val (.ref a), .val (.long q), .second, .val (.ref lo), .unset, .unset, .unset] [])) (own_pn (by first | (simp [plainName, overriddenIn]; done) | decide +kernel)) (fun m => by first | (simp [entryFrame, mkF, argsToLocals, Value.category]; done) | rfl) ?_
  intro p e s m below meth c T X hx hby hml hZ hown hnm hret hlk eT
  show own_Go p e below (own_Out s (fun v h L => ∃ r, v = some (.ref r) ∧ Fr n0 L ∧ Keep h0 h [] ∧ own_Stamp Z h r (own_ans [y0, y1] q).1 (own_ans [y0, y1] q).2) ({ frames := 3, cells := 1, slots := 2, locals := 100 } : Room).cells ({ frames := 3, cells := 1, slots := 2, locals := 100 } : Room).slots) (T.setTop (mkF m 0 #[.val (.ref a), .val (.long q), .second, .val (.ref lo), .unset, .unset, .unset] []))
  obtain ⟨fs, ls, ks, I0, HE, lf, lL, lk⟩ := J0
  have I1 := I0
  obtain ⟨⟨o_E0, f_A0, l_A0, k_A0⟩, ⟨o_from0, o_lead0, o_member0, o_start0, o_end0⟩, ⟨ne_a_ff, ne_a_ll, ne_a_kk, ne_ff_ll, ne_ff_kk, ne_ll_kk⟩⟩ := I0
  have N0 := Fr.nil n0
  have K0 := Keep.refl h0 []
  obtain ⟨vf0, vl0, vk0⟩ := HE 0 y0 rfl
  obtain ⟨vf1, vl1, vk1⟩ := HE 1 y1 rfl
  refine own_go (fun _ => XS.aloadN X.here hx rfl (hb hby d12_0) rfl rfl) ?_
  refine own_go (fun _ => XS.astore X.here hx rfl (hb hby d12_1) rfl rfl (l' := #[.val (.ref a), .val (.long q), .second, .val (.ref lo), .val (.ref lo), .unset, .unset]) rfl) ?_
  refine own_go (fun _ => XS.aloadN X.here hx rfl (hb hby d12_3) rfl rfl) ?_
  refine own_go (fun _ => XT.lloadN X.here hx rfl (hb hby d12_4) rfl) ?_
  show own_Go p e below _ (T.setTop (mkF m 5 #[.val (.ref a), .val (.long q), .second, .val (.ref lo), .val (.ref lo), .unset, .unset] [(.long q), (.ref a)]))
  obtain ⟨_, T1, L1, X1, ⟨rfl, eh1, rfl⟩, st1⟩ := own_callP X hx hZ hown (argsL := [(.long q)]) (rest := []) (own_floor2_con l Z a0 hw a ff ll kk fs ls ks q y0.1 y1.1 h0 I1 vf0 vf1 []) eT o_E0 (hw _ (List.mem_of_getElem? (i := 50) rfl)) (hw _ (List.mem_of_getElem? (i := 51) rfl)) (hw _ (List.mem_of_getElem? (i := 52) rfl)) (hw _ (List.mem_of_getElem? (i := 1) rfl)) (hw _ (List.mem_of_getElem? (i := 2) rfl)) (hw _ (List.mem_of_getElem? (i := 53) rfl)) (by decide) (by decide +kernel : parseMethodDescriptor "(J)I" = some ⟨[.long], some .int⟩) rfl (g := (mkF m 5 #[.val (.ref a), .val (.long q), .second, .val (.ref lo), .val (.ref lo), .unset, .unset] [(.long q), (.ref a)])) rfl (by rw [hml]; rfl) rfl 0 (by show 2 * 0 + _ ≤ _; exact Nat.le_of_eq rfl) (hb hby d12_5) (by decide) (by decide) (by decide) (by decide)
  rw [List.append_nil] at X1
  refine own_go st1 ?_
  by_cases hc0 : q < y0.1
  · skip
    have ef : (if q < y0.1 then (-1 : Int32) else (if q < y1.1 then 0 else 1)) = (-1 : Int32) := by simp only [hc0, if_true, if_false]
    show own_Go p e below _ (T1.setTop (mkF m 8 #[.val (.ref a), .val (.long q), .second, .val (.ref lo), .val (.ref lo), .unset, .unset] [(.int (if q < y0.1 then (-1 : Int32) else (if q < y1.1 then 0 else 1)))]))
    rw [ef]
    refine own_go (fun _ => XS.istore X1.here hx rfl (hb hby d12_8) rfl (l' := #[.val (.ref a), .val (.long q), .second, .val (.ref lo), .val (.ref lo), .val (.int (-1 : Int32)), .unset]) rfl) ?_
    refine own_go (fun _ => XS.iload X1.here hx rfl (hb hby d12_10) rfl) ?_
    refine own_go (fun _ => XS.aloadN X1.here hx rfl (hb hby d12_12) rfl rfl) ?_
    show own_Go p e below _ (T1.setTop (mkF m 13 #[.val (.ref a), .val (.long q), .second, .val (.ref lo), .val (.ref lo), .val (.int (-1 : Int32)), .unset] [(.ref a), (.int (-1 : Int32))]))
    obtain ⟨T2, X2, e2, st2⟩ := getF X1 hx hZ hown (host := "") (Or.inl (hw _ (List.mem_of_getElem? (i := 54) rfl))) Via.refl eh1 o_start0 (g := (mkF m 13 #[.val (.ref a), .val (.long q), .second, .val (.ref lo), .val (.ref lo), .val (.int (-1 : Int32)), .unset] [(.ref a), (.int (-1 : Int32))])) rfl rfl (hb hby d12_13)
    refine own_go st2 ?_
    have ea : own_ans [y0, y1] q = ((-9223372036854775808 : Int64), 0) := by simp only [own_ans, hc0, if_true, if_false]
    rw [ea]
    refine own_go (fun _ => XS.icmpYes X2.here hx rfl (pc0 := 16) (pc' := 61) rfl (hb hby d12_16) rfl (XT.ii_lt_t (by decide)) (by decide) (by decide)) ?_
    refine own_go (fun _ => XS.aload X2.here hx rfl (hb hby d12_61) rfl rfl) ?_
    exact own_aret X2 hx hlk hret rfl rfl (hb hby d12_63) (by decide) (by decide) (by rw [e2]; exact ⟨lo, rfl, N0, K0, S0⟩)
  · skip
    by_cases hc1 : q < y1.1
    · skip
      have ef : (if q < y0.1 then (-1 : Int32) else (if q < y1.1 then 0 else 1)) = (0 : Int32) := by simp only [hc0, hc1, if_true, if_false]
      show own_Go p e below _ (T1.setTop (mkF m 8 #[.val (.ref a), .val (.long q), .second, .val (.ref lo), .val (.ref lo), .unset, .unset] [(.int (if q < y0.1 then (-1 : Int32) else (if q < y1.1 then 0 else 1)))]))
      rw [ef]
      refine own_go (fun _ => XS.istore X1.here hx rfl (hb hby d12_8) rfl (l' := #[.val (.ref a), .val (.long q), .second, .val (.ref lo), .val (.ref lo), .val (.int (0 : Int32)), .unset]) rfl) ?_
      refine own_go (fun _ => XS.iload X1.here hx rfl (hb hby d12_10) rfl) ?_
      refine own_go (fun _ => XS.aloadN X1.here hx rfl (hb hby d12_12) rfl rfl) ?_
      show own_Go p e below _ (T1.setTop (mkF m 13 #[.val (.ref a), .val (.long q), .second, .val (.ref lo), .val (.ref lo), .val (.int (0 : Int32)), .unset] [(.ref a), (.int (0 : Int32))]))
      obtain ⟨T3, X3, e3, st3⟩ := getF X1 hx hZ hown (host := "") (Or.inl (hw _ (List.mem_of_getElem? (i := 54) rfl))) Via.refl eh1 o_start0 (g := (mkF m 13 #[.val (.ref a), .val (.long q), .second, .val (.ref lo), .val (.ref lo), .val (.int (0 : Int32)), .unset] [(.ref a), (.int (0 : Int32))])) rfl rfl (hb hby d12_13)
      refine own_go st3 ?_
      have ea : own_ans [y0, y1] q = (q + y0.2.1, y0.2.2) := by simp only [own_ans, hc0, hc1, if_true, if_false]
      rw [ea]
      refine own_go (fun _ => XS.icmpNo X3.here hx rfl (hb hby d12_16) rfl (XT.ii_lt_f (by decide))) ?_
      have lo_E0 := S0.1
      obtain ⟨T4, h4, X4, e4, E4, C4, D4, -, st4⟩ := newO X3 hx hZ hown (hw _ (List.mem_of_getElem? (i := 81) rfl)) (hw _ (List.mem_of_getElem? (i := 18) rfl)) (hw _ (List.mem_of_getElem? (i := 19) rfl)) e3 (g := (mkF m 19 #[.val (.ref a), .val (.long q), .second, .val (.ref lo), .val (.ref lo), .val (.int (0 : Int32)), .unset] [])) rfl (hb hby d12_19) (by decide) (by decide)
      obtain ⟨a4, q4⟩ : ∃ z, z = h0.size := ⟨_, rfl⟩
      rw [← q4] at C4 D4 st4
      have ne_a_a4 : a ≠ a4 := fun z => absurd o_E0.lt (by rw [z, q4]; exact Nat.lt_irrefl _)
      have ne_ff_a4 : ff ≠ a4 := fun z => absurd f_A0.lt (by rw [z, q4]; exact Nat.lt_irrefl _)
      have ne_kk_a4 : kk ≠ a4 := fun z => absurd k_A0.lt (by rw [z, q4]; exact Nat.lt_irrefl _)
      have ne_ll_a4 : ll ≠ a4 := fun z => absurd l_A0.lt (by rw [z, q4]; exact Nat.lt_irrefl _)
      have ne_lo_a4 : lo ≠ a4 := fun z => absurd lo_E0.lt (by rw [z, q4]; exact Nat.lt_irrefl _)
      have o_E_4 := o_E0.ext E4
      have o_from_4 := o_from0.ext E4
      have o_lead_4 := o_lead0.ext E4
      have o_member_4 := o_member0.ext E4
      have o_start_4 := o_start0.ext E4
      have o_end_4 := o_end0.ext E4
      have f_A_4 := f_A0.ext E4
      have l_A_4 := l_A0.ext E4
      have k_A_4 := k_A0.ext E4
      have lo_E_4 := lo_E0.ext E4
      have K4 := K0.ext E4
      have n_counter_4 := D4 (Or.inr (hw _ (List.mem_of_getElem? (i := 30) rfl))) (ty := .long) (by decide)
      have n_member_4 := D4 (Or.inr (hw _ (List.mem_of_getElem? (i := 32) rfl))) (ty := .int) (by decide)
      refine own_go st4 ?_
      have S1 := S0.ext E4
      have gna : n0 ≤ a4 := by rw [q4]; exact gn
      refine own_go (fun _ => XS.dup X4.here hx rfl (hb hby d12_22) rfl rfl) ?_
      show own_Go p e below _ (T4.setTop (mkF m 23 #[.val (.ref a), .val (.long q), .second, .val (.ref lo), .val (.ref lo), .val (.int (0 : Int32)), .unset] [(.ref a4), (.ref a4)]))
      refine own_go (fun _ => XT.lloadN X4.here hx rfl (hb hby d12_23) rfl) ?_
      refine own_go (fun _ => XS.aloadN X4.here hx rfl (hb hby d12_24) rfl rfl) ?_
      obtain ⟨T5, X5, e5, st5⟩ := getF X4 hx hZ hown (host := "") (Or.inl (hw _ (List.mem_of_getElem? (i := 12) rfl))) Via.refl e4 o_lead_4 (g := (mkF m 25 #[.val (.ref a), .val (.long q), .second, .val (.ref lo), .val (.ref lo), .val (.int (0 : Int32)), .unset] [(.ref a), (.long q), (.ref a4), (.ref a4)])) rfl rfl (hb hby d12_25)
      refine own_go st5 ?_
      refine own_go (fun _ => XS.iload X5.here hx rfl (hb hby d12_28) rfl) ?_
      show own_Go p e below _ (T5.setTop (mkF m 30 #[.val (.ref a), .val (.long q), .second, .val (.ref lo), .val (.ref lo), .val (.int (0 : Int32)), .unset] [(.int (0 : Int32)), (.ref ll), (.long q), (.ref a4), (.ref a4)]))
      refine own_go (own_ldJ X5 hx hZ e5 l_A_4 (g := (mkF m 30 #[.val (.ref a), .val (.long q), .second, .val (.ref lo), .val (.ref lo), .val (.int (0 : Int32)), .unset] [(.int (0 : Int32)), (.ref ll), (.long q), (.ref a4), (.ref a4)])) rfl rfl (hb hby d12_30) 0 (by decide) (x := (.long y0.2.1)) vl0) ?_
      refine own_go (fun _ => XT.ladd X5.here hx rfl (hb hby d12_31) rfl) ?_
      refine own_go (fun _ => XS.aloadN X5.here hx rfl (hb hby d12_32) rfl rfl) ?_
      obtain ⟨T6, X6, e6, st6⟩ := getF X5 hx hZ hown (host := "") (Or.inl (hw _ (List.mem_of_getElem? (i := 15) rfl))) Via.refl e5 o_member_4 (g := (mkF m 33 #[.val (.ref a), .val (.long q), .second, .val (.ref lo), .val (.ref lo), .val (.int (0 : Int32)), .unset] [(.ref a), (.long (q + y0.2.1)), (.ref a4), (.ref a4)])) rfl rfl (hb hby d12_33)
      refine own_go st6 ?_
      show own_Go p e below _ (T6.setTop (mkF m 36 #[.val (.ref a), .val (.long q), .second, .val (.ref lo), .val (.ref lo), .val (.int (0 : Int32)), .unset] [(.ref kk), (.long (q + y0.2.1)), (.ref a4), (.ref a4)]))
      refine own_go (fun _ => XS.iload X6.here hx rfl (hb hby d12_36) rfl) ?_
      refine own_go (own_ldI X6 hx hZ e6 k_A_4 (g := (mkF m 38 #[.val (.ref a), .val (.long q), .second, .val (.ref lo), .val (.ref lo), .val (.int (0 : Int32)), .unset] [(.int (0 : Int32)), (.ref kk), (.long (q + y0.2.1)), (.ref a4), (.ref a4)])) rfl rfl (hb hby d12_38) 0 (by decide) (x := (.int y0.2.2)) vk0) ?_
      obtain ⟨_, T7, L7, X7, ⟨rfl, Nc7, Kc7, S7⟩, st7⟩ := own_callI X6 hx hZ hown rfl (argsL := [(.long (q + y0.2.1)), (.int y0.2.2)]) (rest := [(.ref a4)]) (own_stampI_con l Z a0 hw a4 (q + y0.2.1) y0.2.2 n0 h4 C4 n_counter_4 n_member_4 gna []) e6 (hw _ (List.mem_of_getElem? (i := 82) rfl)) (hw _ (List.mem_of_getElem? (i := 21) rfl)) (hw _ (List.mem_of_getElem? (i := 19) rfl)) (hw _ (List.mem_of_getElem? (i := 22) rfl)) (by decide) (by decide +kernel : parseMethodDescriptor "(JI)V" = some ⟨[.long, .int], none⟩) rfl (g := (mkF m 39 #[.val (.ref a), .val (.long q), .second, .val (.ref lo), .val (.ref lo), .val (.int (0 : Int32)), .unset] [(.int y0.2.2), (.long (q + y0.2.1)), (.ref a4), (.ref a4)])) rfl (by rw [hml]; rfl) rfl 1 (by show 2 * 0 + _ ≤ _; exact Nat.le_of_eq rfl) (hb hby d12_39) (by decide) (by decide) (by decide) (by decide)
      have N7 := Fr.app N0 Nc7
      have o_E_7 := o_E_4.keep Kc7
      have o_from_7 := o_from_4.keep Kc7 (ninS ne_a_a4 nin0)
      have o_lead_7 := o_lead_4.keep Kc7 (ninS ne_a_a4 nin0)
      have o_member_7 := o_member_4.keep Kc7 (ninS ne_a_a4 nin0)
      have o_start_7 := o_start_4.keep Kc7 (ninS ne_a_a4 nin0)
      have o_end_7 := o_end_4.keep Kc7 (ninS ne_a_a4 nin0)
      have f_A_7 := f_A_4.keep Kc7 (ninS ne_ff_a4 nin0)
      have l_A_7 := l_A_4.keep Kc7 (ninS ne_ll_a4 nin0)
      have k_A_7 := k_A_4.keep Kc7 (ninS ne_kk_a4 nin0)
      have lo_E_7 := lo_E_4.keep Kc7
      have n_E_7 := C4.keep Kc7
      have K7 := K4.trans Kc7 (allS (Or.inr (Nat.le_of_eq q4.symm)) all0)
      refine own_go st7 ?_
      refine own_go (fun _ => XS.astore X7.here hx rfl (hb hby d12_42) rfl rfl (l' := #[.val (.ref a), .val (.long q), .second, .val (.ref lo), .val (.ref lo), .val (.int (0 : Int32)), .val (.ref a4)]) rfl) ?_
      show own_Go p e below _ (T7.setTop (mkF m 44 #[.val (.ref a), .val (.long q), .second, .val (.ref lo), .val (.ref lo), .val (.int (0 : Int32)), .val (.ref a4)] []))
      refine own_go (fun _ => XS.aload X7.here hx rfl (hb hby d12_44) rfl rfl) ?_
      refine own_go (fun _ => XS.aloadN X7.here hx rfl (hb hby d12_46) rfl rfl) ?_
      have S2 := S1.keep Kc7 (ninS ne_lo_a4 nin0)
      obtain ⟨_, T8, L8, X8, ⟨rfl, eh8, rfl⟩, st8⟩ := own_callV X7 hx hZ hown (argsL := [(.ref lo)]) (rest := []) (own_isAfter_con l Z a0 hw a4 lo (q + y0.2.1) (-9223372036854775808 : Int64) y0.2.2 0 T7.heap S7 S2 p0 []) rfl n_E_7 (hw _ (List.mem_of_getElem? (i := 83) rfl)) (hw _ (List.mem_of_getElem? (i := 84) rfl)) (hw _ (List.mem_of_getElem? (i := 86) rfl)) (hw _ (List.mem_of_getElem? (i := 85) rfl)) (hw _ (List.mem_of_getElem? (i := 19) rfl)) (hw _ (List.mem_of_getElem? (i := 87) rfl)) (notFace_of_selects (args := #[]) (mvT hZ (hw _ (List.mem_of_getElem? (i := 86) rfl)))) (by decide) (by decide +kernel : parseMethodDescriptor "(Ltidemark/model/Stamp;)Z" = some ⟨[(.object "tidemark/model/Stamp")], some .boolean⟩) rfl (g := (mkF m 47 #[.val (.ref a), .val (.long q), .second, .val (.ref lo), .val (.ref lo), .val (.int (0 : Int32)), .val (.ref a4)] [(.ref lo), (.ref a4)])) rfl (by rw [hml]; rfl) rfl 0 (by show 2 * 0 + _ ≤ _; exact Nat.le_of_eq rfl) (hb hby d12_47) (by decide) (by decide) (by decide) (by decide)
      rw [List.append_nil] at X8
      refine own_go st8 ?_
      refine own_go (fun _ => XS.ifNo X8.here hx rfl (hb hby d12_50) rfl (XT.i0_eq_f (by decide))) ?_
      show own_Go p e below _ (T8.setTop (mkF m 53 #[.val (.ref a), .val (.long q), .second, .val (.ref lo), .val (.ref lo), .val (.int (0 : Int32)), .val (.ref a4)] []))
      refine own_go (fun _ => XS.aload X8.here hx rfl (hb hby d12_53) rfl rfl) ?_
      refine own_go (fun _ => XS.goto X8.here hx rfl (pc0 := 55) (pc' := 59) rfl (hb hby d12_55) (by decide) (by decide)) ?_
      refine own_go (fun _ => XS.astore X8.here hx rfl (hb hby d12_59) rfl rfl (l' := #[.val (.ref a), .val (.long q), .second, .val (.ref lo), .val (.ref a4), .val (.int (0 : Int32)), .val (.ref a4)]) rfl) ?_
      refine own_go (fun _ => XS.aload X8.here hx rfl (hb hby d12_61) rfl rfl) ?_
      show own_Go p e below _ (T8.setTop (mkF m 63 #[.val (.ref a), .val (.long q), .second, .val (.ref lo), .val (.ref a4), .val (.int (0 : Int32)), .val (.ref a4)] [(.ref a4)]))
      exact own_aret X8 hx hlk hret rfl rfl (hb hby d12_63) (by decide) (by decide) (by rw [eh8]; exact ⟨_, rfl, N7, K7, S7⟩)
    · skip
      have ef : (if q < y0.1 then (-1 : Int32) else (if q < y1.1 then 0 else 1)) = (1 : Int32) := by simp only [hc0, hc1, if_true, if_false]
      show own_Go p e below _ (T1.setTop (mkF m 8 #[.val (.ref a), .val (.long q), .second, .val (.ref lo), .val (.ref lo), .unset, .unset] [(.int (if q < y0.1 then (-1 : Int32) else (if q < y1.1 then 0 else 1)))]))
      rw [ef]
      refine own_go (fun _ => XS.istore X1.here hx rfl (hb hby d12_8) rfl (l' := #[.val (.ref a), .val (.long q), .second, .val (.ref lo), .val (.ref lo), .val (.int (1 : Int32)), .unset]) rfl) ?_
      refine own_go (fun _ => XS.iload X1.here hx rfl (hb hby d12_10) rfl) ?_
      refine own_go (fun _ => XS.aloadN X1.here hx rfl (hb hby d12_12) rfl rfl) ?_
      show own_Go p e below _ (T1.setTop (mkF m 13 #[.val (.ref a), .val (.long q), .second, .val (.ref lo), .val (.ref lo), .val (.int (1 : Int32)), .unset] [(.ref a), (.int (1 : Int32))]))
      obtain ⟨T9, X9, e9, st9⟩ := getF X1 hx hZ hown (host := "") (Or.inl (hw _ (List.mem_of_getElem? (i := 54) rfl))) Via.refl eh1 o_start0 (g := (mkF m 13 #[.val (.ref a), .val (.long q), .second, .val (.ref lo), .val (.ref lo), .val (.int (1 : Int32)), .unset] [(.ref a), (.int (1 : Int32))])) rfl rfl (hb hby d12_13)
      refine own_go st9 ?_
      have ea : own_ans [y0, y1] q = (q + y1.2.1, y1.2.2) := by simp only [own_ans, hc0, hc1, if_true, if_false]
      rw [ea]
      refine own_go (fun _ => XS.icmpNo X9.here hx rfl (hb hby d12_16) rfl (XT.ii_lt_f (by decide))) ?_
      have lo_E0 := S0.1
      obtain ⟨T10, h10, X10, e10, E10, C10, D10, -, st10⟩ := newO X9 hx hZ hown (hw _ (List.mem_of_getElem? (i := 81) rfl)) (hw _ (List.mem_of_getElem? (i := 18) rfl)) (hw _ (List.mem_of_getElem? (i := 19) rfl)) e9 (g := (mkF m 19 #[.val (.ref a), .val (.long q), .second, .val (.ref lo), .val (.ref lo), .val (.int (1 : Int32)), .unset] [])) rfl (hb hby d12_19) (by decide) (by decide)
      obtain ⟨a10, q10⟩ : ∃ z, z = h0.size := ⟨_, rfl⟩
      rw [← q10] at C10 D10 st10
      have ne_a_a10 : a ≠ a10 := fun z => absurd o_E0.lt (by rw [z, q10]; exact Nat.lt_irrefl _)
      have ne_ff_a10 : ff ≠ a10 := fun z => absurd f_A0.lt (by rw [z, q10]; exact Nat.lt_irrefl _)
      have ne_kk_a10 : kk ≠ a10 := fun z => absurd k_A0.lt (by rw [z, q10]; exact Nat.lt_irrefl _)
      have ne_ll_a10 : ll ≠ a10 := fun z => absurd l_A0.lt (by rw [z, q10]; exact Nat.lt_irrefl _)
      have ne_lo_a10 : lo ≠ a10 := fun z => absurd lo_E0.lt (by rw [z, q10]; exact Nat.lt_irrefl _)
      have o_E_10 := o_E0.ext E10
      have o_from_10 := o_from0.ext E10
      have o_lead_10 := o_lead0.ext E10
      have o_member_10 := o_member0.ext E10
      have o_start_10 := o_start0.ext E10
      have o_end_10 := o_end0.ext E10
      have f_A_10 := f_A0.ext E10
      have l_A_10 := l_A0.ext E10
      have k_A_10 := k_A0.ext E10
      have lo_E_10 := lo_E0.ext E10
      have K10 := K0.ext E10
      have n_counter_10 := D10 (Or.inr (hw _ (List.mem_of_getElem? (i := 30) rfl))) (ty := .long) (by decide)
      have n_member_10 := D10 (Or.inr (hw _ (List.mem_of_getElem? (i := 32) rfl))) (ty := .int) (by decide)
      refine own_go st10 ?_
      have S1 := S0.ext E10
      have gna : n0 ≤ a10 := by rw [q10]; exact gn
      refine own_go (fun _ => XS.dup X10.here hx rfl (hb hby d12_22) rfl rfl) ?_
      show own_Go p e below _ (T10.setTop (mkF m 23 #[.val (.ref a), .val (.long q), .second, .val (.ref lo), .val (.ref lo), .val (.int (1 : Int32)), .unset] [(.ref a10), (.ref a10)]))
      refine own_go (fun _ => XT.lloadN X10.here hx rfl (hb hby d12_23) rfl) ?_
      refine own_go (fun _ => XS.aloadN X10.here hx rfl (hb hby d12_24) rfl rfl) ?_
      obtain ⟨T11, X11, e11, st11⟩ := getF X10 hx hZ hown (host := "") (Or.inl (hw _ (List.mem_of_getElem? (i := 12) rfl))) Via.refl e10 o_lead_10 (g := (mkF m 25 #[.val (.ref a), .val (.long q), .second, .val (.ref lo), .val (.ref lo), .val (.int (1 : Int32)), .unset] [(.ref a), (.long q), (.ref a10), (.ref a10)])) rfl rfl (hb hby d12_25)
      refine own_go st11 ?_
      refine own_go (fun _ => XS.iload X11.here hx rfl (hb hby d12_28) rfl) ?_
      show own_Go p e below _ (T11.setTop (mkF m 30 #[.val (.ref a), .val (.long q), .second, .val (.ref lo), .val (.ref lo), .val (.int (1 : Int32)), .unset] [(.int (1 : Int32)), (.ref ll), (.long q), (.ref a10), (.ref a10)]))
      refine own_go (own_ldJ X11 hx hZ e11 l_A_10 (g := (mkF m 30 #[.val (.ref a), .val (.long q), .second, .val (.ref lo), .val (.ref lo), .val (.int (1 : Int32)), .unset] [(.int (1 : Int32)), (.ref ll), (.long q), (.ref a10), (.ref a10)])) rfl rfl (hb hby d12_30) 1 (by decide) (x := (.long y1.2.1)) vl1) ?_
      refine own_go (fun _ => XT.ladd X11.here hx rfl (hb hby d12_31) rfl) ?_
      refine own_go (fun _ => XS.aloadN X11.here hx rfl (hb hby d12_32) rfl rfl) ?_
      obtain ⟨T12, X12, e12, st12⟩ := getF X11 hx hZ hown (host := "") (Or.inl (hw _ (List.mem_of_getElem? (i := 15) rfl))) Via.refl e11 o_member_10 (g := (mkF m 33 #[.val (.ref a), .val (.long q), .second, .val (.ref lo), .val (.ref lo), .val (.int (1 : Int32)), .unset] [(.ref a), (.long (q + y1.2.1)), (.ref a10), (.ref a10)])) rfl rfl (hb hby d12_33)
      refine own_go st12 ?_
      show own_Go p e below _ (T12.setTop (mkF m 36 #[.val (.ref a), .val (.long q), .second, .val (.ref lo), .val (.ref lo), .val (.int (1 : Int32)), .unset] [(.ref kk), (.long (q + y1.2.1)), (.ref a10), (.ref a10)]))
      refine own_go (fun _ => XS.iload X12.here hx rfl (hb hby d12_36) rfl) ?_
      refine own_go (own_ldI X12 hx hZ e12 k_A_10 (g := (mkF m 38 #[.val (.ref a), .val (.long q), .second, .val (.ref lo), .val (.ref lo), .val (.int (1 : Int32)), .unset] [(.int (1 : Int32)), (.ref kk), (.long (q + y1.2.1)), (.ref a10), (.ref a10)])) rfl rfl (hb hby d12_38) 1 (by decide) (x := (.int y1.2.2)) vk1) ?_
      obtain ⟨_, T13, L13, X13, ⟨rfl, Nc13, Kc13, S13⟩, st13⟩ := own_callI X12 hx hZ hown rfl (argsL := [(.long (q + y1.2.1)), (.int y1.2.2)]) (rest := [(.ref a10)]) (own_stampI_con l Z a0 hw a10 (q + y1.2.1) y1.2.2 n0 h10 C10 n_counter_10 n_member_10 gna []) e12 (hw _ (List.mem_of_getElem? (i := 82) rfl)) (hw _ (List.mem_of_getElem? (i := 21) rfl)) (hw _ (List.mem_of_getElem? (i := 19) rfl)) (hw _ (List.mem_of_getElem? (i := 22) rfl)) (by decide) (by decide +kernel : parseMethodDescriptor "(JI)V" = some ⟨[.long, .int], none⟩) rfl (g := (mkF m 39 #[.val (.ref a), .val (.long q), .second, .val (.ref lo), .val (.ref lo), .val (.int (1 : Int32)), .unset] [(.int y1.2.2), (.long (q + y1.2.1)), (.ref a10), (.ref a10)])) rfl (by rw [hml]; rfl) rfl 1 (by show 2 * 0 + _ ≤ _; exact Nat.le_of_eq rfl) (hb hby d12_39) (by decide) (by decide) (by decide) (by decide)
      have N13 := Fr.app N0 Nc13
      have o_E_13 := o_E_10.keep Kc13
      have o_from_13 := o_from_10.keep Kc13 (ninS ne_a_a10 nin0)
      have o_lead_13 := o_lead_10.keep Kc13 (ninS ne_a_a10 nin0)
      have o_member_13 := o_member_10.keep Kc13 (ninS ne_a_a10 nin0)
      have o_start_13 := o_start_10.keep Kc13 (ninS ne_a_a10 nin0)
      have o_end_13 := o_end_10.keep Kc13 (ninS ne_a_a10 nin0)
      have f_A_13 := f_A_10.keep Kc13 (ninS ne_ff_a10 nin0)
      have l_A_13 := l_A_10.keep Kc13 (ninS ne_ll_a10 nin0)
      have k_A_13 := k_A_10.keep Kc13 (ninS ne_kk_a10 nin0)
      have lo_E_13 := lo_E_10.keep Kc13
      have n_E_13 := C10.keep Kc13
      have K13 := K10.trans Kc13 (allS (Or.inr (Nat.le_of_eq q10.symm)) all0)
      refine own_go st13 ?_
      refine own_go (fun _ => XS.astore X13.here hx rfl (hb hby d12_42) rfl rfl (l' := #[.val (.ref a), .val (.long q), .second, .val (.ref lo), .val (.ref lo), .val (.int (1 : Int32)), .val (.ref a10)]) rfl) ?_
      show own_Go p e below _ (T13.setTop (mkF m 44 #[.val (.ref a), .val (.long q), .second, .val (.ref lo), .val (.ref lo), .val (.int (1 : Int32)), .val (.ref a10)] []))
      refine own_go (fun _ => XS.aload X13.here hx rfl (hb hby d12_44) rfl rfl) ?_
      refine own_go (fun _ => XS.aloadN X13.here hx rfl (hb hby d12_46) rfl rfl) ?_
      have S2 := S1.keep Kc13 (ninS ne_lo_a10 nin0)
      obtain ⟨_, T14, L14, X14, ⟨rfl, eh14, rfl⟩, st14⟩ := own_callV X13 hx hZ hown (argsL := [(.ref lo)]) (rest := []) (own_isAfter_con l Z a0 hw a10 lo (q + y1.2.1) (-9223372036854775808 : Int64) y1.2.2 0 T13.heap S13 S2 p1 []) rfl n_E_13 (hw _ (List.mem_of_getElem? (i := 83) rfl)) (hw _ (List.mem_of_getElem? (i := 84) rfl)) (hw _ (List.mem_of_getElem? (i := 86) rfl)) (hw _ (List.mem_of_getElem? (i := 85) rfl)) (hw _ (List.mem_of_getElem? (i := 19) rfl)) (hw _ (List.mem_of_getElem? (i := 87) rfl)) (notFace_of_selects (args := #[]) (mvT hZ (hw _ (List.mem_of_getElem? (i := 86) rfl)))) (by decide) (by decide +kernel : parseMethodDescriptor "(Ltidemark/model/Stamp;)Z" = some ⟨[(.object "tidemark/model/Stamp")], some .boolean⟩) rfl (g := (mkF m 47 #[.val (.ref a), .val (.long q), .second, .val (.ref lo), .val (.ref lo), .val (.int (1 : Int32)), .val (.ref a10)] [(.ref lo), (.ref a10)])) rfl (by rw [hml]; rfl) rfl 0 (by show 2 * 0 + _ ≤ _; exact Nat.le_of_eq rfl) (hb hby d12_47) (by decide) (by decide) (by decide) (by decide)
      rw [List.append_nil] at X14
      refine own_go st14 ?_
      refine own_go (fun _ => XS.ifNo X14.here hx rfl (hb hby d12_50) rfl (XT.i0_eq_f (by decide))) ?_
      show own_Go p e below _ (T14.setTop (mkF m 53 #[.val (.ref a), .val (.long q), .second, .val (.ref lo), .val (.ref lo), .val (.int (1 : Int32)), .val (.ref a10)] []))
      refine own_go (fun _ => XS.aload X14.here hx rfl (hb hby d12_53) rfl rfl) ?_
      refine own_go (fun _ => XS.goto X14.here hx rfl (pc0 := 55) (pc' := 59) rfl (hb hby d12_55) (by decide) (by decide)) ?_
      refine own_go (fun _ => XS.astore X14.here hx rfl (hb hby d12_59) rfl rfl (l' := #[.val (.ref a), .val (.long q), .second, .val (.ref lo), .val (.ref a10), .val (.int (1 : Int32)), .val (.ref a10)]) rfl) ?_
      refine own_go (fun _ => XS.aload X14.here hx rfl (hb hby d12_61) rfl rfl) ?_
      show own_Go p e below _ (T14.setTop (mkF m 63 #[.val (.ref a), .val (.long q), .second, .val (.ref lo), .val (.ref a10), .val (.int (1 : Int32)), .val (.ref a10)] [(.ref a10)]))
      exact own_aret X14 hx hlk hret rfl rfl (hb hby d12_63) (by decide) (by decide) (by rw [eh14]; exact ⟨_, rfl, N13, K13, S13⟩)
set_option maxRecDepth 65536 in
set_option maxHeartbeats 40000000 in
theorem own_stamp3_con (l : Launch) (Z : State) (a0 : Array Value) (hw : ∀ d ∈ tables_1, d.before a0 Z = true) (a ff ll kk lo : Addr) (q : Int64) (y0 y1 y2 : Int64 × Int64 × Int32) (n0 : Nat) (h0 : Heap) (J0 : own_St Z h0 a ff ll kk [y0, y1, y2] 3) (S0 : own_Stamp Z h0 lo (-9223372036854775808 : Int64) 0) (p0 : (-9223372036854775808 : Int64) < q + y0.2.1) (p1 : (-9223372036854775808 : Int64) < q + y1.2.1) (p2 : (-9223372036854775808 : Int64) < q + y2.2.1) (gn : n0 ≤ h0.size) (ws : List Jvm.Cond) :
    own_Con l Z (⟨"tidemark/protocol/Raises", "stamp", "(JLtidemark/model/Stamp;)Ltidemark/model/Stamp;"⟩ : MethodName) prog_79_method_3_code 7 (some (.object "tidemark/model/Stamp")) ({ frames := 3, cells := 1, slots := 2, locals := 100 } : Room) #[(.ref a), (.long q), (.ref lo)] h0 (fun v h L => ∃ r, v = some (.ref r) ∧ Fr n0 L ∧ Keep h0 h [] ∧ own_Stamp Z h r (own_ans [y0, y1, y2] q).1 (own_ans [y0, y1, y2] q).2) ws := by
  refine own_con (F := fun m => (mkF m 0 #[.val (.ref a), .val (.long q), .second, .val (.ref lo), .unset, .unset, .unset] [])) (own_pn (by first | (simp [plainName, overriddenIn]; done) | decide +kernel)) (fun m => by first | (simp [entryFrame, mkF, argsToLocals, Value.category]; done) | rfl) ?_
  intro p e s m below meth c T X hx hby hml hZ hown hnm hret hlk eT
  show own_Go p e below (own_Out s (fun v h L => ∃ r, v = some (.ref r) ∧ Fr n0 L ∧ Keep h0 h [] ∧ own_Stamp Z h r (own_ans [y0, y1, y2] q).1 (own_ans [y0, y1, y2] q).2) ({ frames := 3, cells := 1, slots := 2, locals := 100 } : Room).cells ({ frames := 3, cells := 1, slots := 2, locals := 100 } : Room).slots) (T.setTop (mkF m 0 #[.val (.ref a), .val (.long q), .second, .val (.ref lo), .unset, .unset, .unset] []))
  obtain ⟨fs, ls, ks, I0, HE, lf, lL, lk⟩ := J0
  have I1 := I0
  obtain ⟨⟨o_E0, f_A0, l_A0, k_A0⟩, ⟨o_from0, o_lead0, o_member0, o_start0, o_end0⟩, ⟨ne_a_ff, ne_a_ll, ne_a_kk, ne_ff_ll, ne_ff_kk, ne_ll_kk⟩⟩ := I0
  have N0 := Fr.nil n0
  have K0 := Keep.refl h0 []
  obtain ⟨vf0, vl0, vk0⟩ := HE 0 y0 rfl
  obtain ⟨vf1, vl1, vk1⟩ := HE 1 y1 rfl
  obtain ⟨vf2, vl2, vk2⟩ := HE 2 y2 rfl
  refine own_go (fun _ => XS.aloadN X.here hx rfl (hb hby d12_0) rfl rfl) ?_
  refine own_go (fun _ => XS.astore X.here hx rfl (hb hby d12_1) rfl rfl (l' := #[.val (.ref a), .val (.long q), .second, .val (.ref lo), .val (.ref lo), .unset, .unset]) rfl) ?_
  refine own_go (fun _ => XS.aloadN X.here hx rfl (hb hby d12_3) rfl rfl) ?_
  refine own_go (fun _ => XT.lloadN X.here hx rfl (hb hby d12_4) rfl) ?_
  show own_Go p e below _ (T.setTop (mkF m 5 #[.val (.ref a), .val (.long q), .second, .val (.ref lo), .val (.ref lo), .unset, .unset] [(.long q), (.ref a)]))
  obtain ⟨_, T1, L1, X1, ⟨rfl, eh1, rfl⟩, st1⟩ := own_callP X hx hZ hown (argsL := [(.long q)]) (rest := []) (own_floor3_con l Z a0 hw a ff ll kk fs ls ks q y0.1 y1.1 y2.1 h0 I1 vf0 vf1 vf2 []) eT o_E0 (hw _ (List.mem_of_getElem? (i := 50) rfl)) (hw _ (List.mem_of_getElem? (i := 51) rfl)) (hw _ (List.mem_of_getElem? (i := 52) rfl)) (hw _ (List.mem_of_getElem? (i := 1) rfl)) (hw _ (List.mem_of_getElem? (i := 2) rfl)) (hw _ (List.mem_of_getElem? (i := 53) rfl)) (by decide) (by decide +kernel : parseMethodDescriptor "(J)I" = some ⟨[.long], some .int⟩) rfl (g := (mkF m 5 #[.val (.ref a), .val (.long q), .second, .val (.ref lo), .val (.ref lo), .unset, .unset] [(.long q), (.ref a)])) rfl (by rw [hml]; rfl) rfl 0 (by show 2 * 0 + _ ≤ _; exact Nat.le_of_eq rfl) (hb hby d12_5) (by decide) (by decide) (by decide) (by decide)
  rw [List.append_nil] at X1
  refine own_go st1 ?_
  by_cases hc1 : q < y1.1
  · skip
    by_cases hc0 : q < y0.1
    · skip
      have ef : (if q < y1.1 then (if q < y0.1 then (-1 : Int32) else 0) else (if q < y2.1 then 1 else 2)) = (-1 : Int32) := by simp only [hc1, hc0, if_true, if_false]
      show own_Go p e below _ (T1.setTop (mkF m 8 #[.val (.ref a), .val (.long q), .second, .val (.ref lo), .val (.ref lo), .unset, .unset] [(.int (if q < y1.1 then (if q < y0.1 then (-1 : Int32) else 0) else (if q < y2.1 then 1 else 2)))]))
      rw [ef]
      refine own_go (fun _ => XS.istore X1.here hx rfl (hb hby d12_8) rfl (l' := #[.val (.ref a), .val (.long q), .second, .val (.ref lo), .val (.ref lo), .val (.int (-1 : Int32)), .unset]) rfl) ?_
      refine own_go (fun _ => XS.iload X1.here hx rfl (hb hby d12_10) rfl) ?_
      refine own_go (fun _ => XS.aloadN X1.here hx rfl (hb hby d12_12) rfl rfl) ?_
      show own_Go p e below _ (T1.setTop (mkF m 13 #[.val (.ref a), .val (.long q), .second, .val (.ref lo), .val (.ref lo), .val (.int (-1 : Int32)), .unset] [(.ref a), (.int (-1 : Int32))]))
      obtain ⟨T2, X2, e2, st2⟩ := getF X1 hx hZ hown (host := "") (Or.inl (hw _ (List.mem_of_getElem? (i := 54) rfl))) Via.refl eh1 o_start0 (g := (mkF m 13 #[.val (.ref a), .val (.long q), .second, .val (.ref lo), .val (.ref lo), .val (.int (-1 : Int32)), .unset] [(.ref a), (.int (-1 : Int32))])) rfl rfl (hb hby d12_13)
      refine own_go st2 ?_
      have ea : own_ans [y0, y1, y2] q = ((-9223372036854775808 : Int64), 0) := by simp only [own_ans, hc1, hc0, if_true, if_false]
      rw [ea]
      refine own_go (fun _ => XS.icmpYes X2.here hx rfl (pc0 := 16) (pc' := 61) rfl (hb hby d12_16) rfl (XT.ii_lt_t (by decide)) (by decide) (by decide)) ?_
      refine own_go (fun _ => XS.aload X2.here hx rfl (hb hby d12_61) rfl rfl) ?_
      exact own_aret X2 hx hlk hret rfl rfl (hb hby d12_63) (by decide) (by decide) (by rw [e2]; exact ⟨lo, rfl, N0, K0, S0⟩)
    · skip
      have ef : (if q < y1.1 then (if q < y0.1 then (-1 : Int32) else 0) else (if q < y2.1 then 1 else 2)) = (0 : Int32) := by simp only [hc1, hc0, if_true, if_false]
      show own_Go p e below _ (T1.setTop (mkF m 8 #[.val (.ref a), .val (.long q), .second, .val (.ref lo), .val (.ref lo), .unset, .unset] [(.int (if q < y1.1 then (if q < y0.1 then (-1 : Int32) else 0) else (if q < y2.1 then 1 else 2)))]))
      rw [ef]
      refine own_go (fun _ => XS.istore X1.here hx rfl (hb hby d12_8) rfl (l' := #[.val (.ref a), .val (.long q), .second, .val (.ref lo), .val (.ref lo), .val (.int (0 : Int32)), .unset]) rfl) ?_
      refine own_go (fun _ => XS.iload X1.here hx rfl (hb hby d12_10) rfl) ?_
      refine own_go (fun _ => XS.aloadN X1.here hx rfl (hb hby d12_12) rfl rfl) ?_
      show own_Go p e below _ (T1.setTop (mkF m 13 #[.val (.ref a), .val (.long q), .second, .val (.ref lo), .val (.ref lo), .val (.int (0 : Int32)), .unset] [(.ref a), (.int (0 : Int32))]))
      obtain ⟨T3, X3, e3, st3⟩ := getF X1 hx hZ hown (host := "") (Or.inl (hw _ (List.mem_of_getElem? (i := 54) rfl))) Via.refl eh1 o_start0 (g := (mkF m 13 #[.val (.ref a), .val (.long q), .second, .val (.ref lo), .val (.ref lo), .val (.int (0 : Int32)), .unset] [(.ref a), (.int (0 : Int32))])) rfl rfl (hb hby d12_13)
      refine own_go st3 ?_
      have ea : own_ans [y0, y1, y2] q = (q + y0.2.1, y0.2.2) := by simp only [own_ans, hc1, hc0, if_true, if_false]
      rw [ea]
      refine own_go (fun _ => XS.icmpNo X3.here hx rfl (hb hby d12_16) rfl (XT.ii_lt_f (by decide))) ?_
      have lo_E0 := S0.1
      obtain ⟨T4, h4, X4, e4, E4, C4, D4, -, st4⟩ := newO X3 hx hZ hown (hw _ (List.mem_of_getElem? (i := 81) rfl)) (hw _ (List.mem_of_getElem? (i := 18) rfl)) (hw _ (List.mem_of_getElem? (i := 19) rfl)) e3 (g := (mkF m 19 #[.val (.ref a), .val (.long q), .second, .val (.ref lo), .val (.ref lo), .val (.int (0 : Int32)), .unset] [])) rfl (hb hby d12_19) (by decide) (by decide)
      obtain ⟨a4, q4⟩ : ∃ z, z = h0.size := ⟨_, rfl⟩
      rw [← q4] at C4 D4 st4
      have ne_a_a4 : a ≠ a4 := fun z => absurd o_E0.lt (by rw [z, q4]; exact Nat.lt_irrefl _)
      have ne_ff_a4 : ff ≠ a4 := fun z => absurd f_A0.lt (by rw [z, q4]; exact Nat.lt_irrefl _)
      have ne_kk_a4 : kk ≠ a4 := fun z => absurd k_A0.lt (by rw [z, q4]; exact Nat.lt_irrefl _)
      have ne_ll_a4 : ll ≠ a4 := fun z => absurd l_A0.lt (by rw [z, q4]; exact Nat.lt_irrefl _)
      have ne_lo_a4 : lo ≠ a4 := fun z => absurd lo_E0.lt (by rw [z, q4]; exact Nat.lt_irrefl _)
      have o_E_4 := o_E0.ext E4
      have o_from_4 := o_from0.ext E4
      have o_lead_4 := o_lead0.ext E4
      have o_member_4 := o_member0.ext E4
      have o_start_4 := o_start0.ext E4
      have o_end_4 := o_end0.ext E4
      have f_A_4 := f_A0.ext E4
      have l_A_4 := l_A0.ext E4
      have k_A_4 := k_A0.ext E4
      have lo_E_4 := lo_E0.ext E4
      have K4 := K0.ext E4
      have n_counter_4 := D4 (Or.inr (hw _ (List.mem_of_getElem? (i := 30) rfl))) (ty := .long) (by decide)
      have n_member_4 := D4 (Or.inr (hw _ (List.mem_of_getElem? (i := 32) rfl))) (ty := .int) (by decide)
      refine own_go st4 ?_
      have S1 := S0.ext E4
      have gna : n0 ≤ a4 := by rw [q4]; exact gn
      refine own_go (fun _ => XS.dup X4.here hx rfl (hb hby d12_22) rfl rfl) ?_
      show own_Go p e below _ (T4.setTop (mkF m 23 #[.val (.ref a), .val (.long q), .second, .val (.ref lo), .val (.ref lo), .val (.int (0 : Int32)), .unset] [(.ref a4), (.ref a4)]))
      refine own_go (fun _ => XT.lloadN X4.here hx rfl (hb hby d12_23) rfl) ?_
      refine own_go (fun _ => XS.aloadN X4.here hx rfl (hb hby d12_24) rfl rfl) ?_
      obtain ⟨T5, X5, e5, st5⟩ := getF X4 hx hZ hown (host := "") (Or.inl (hw _ (List.mem_of_getElem? (i := 12) rfl))) Via.refl e4 o_lead_4 (g := (mkF m 25 #[.val (.ref a), .val (.long q), .second, .val (.ref lo), .val (.ref lo), .val (.int (0 : Int32)), .unset] [(.ref a), (.long q), (.ref a4), (.ref a4)])) rfl rfl (hb hby d12_25)
      refine own_go st5 ?_
      refine own_go (fun _ => XS.iload X5.here hx rfl (hb hby d12_28) rfl) ?_
      show own_Go p e below _ (T5.setTop (mkF m 30 #[.val (.ref a), .val (.long q), .second, .val (.ref lo), .val (.ref lo), .val (.int (0 : Int32)), .unset] [(.int (0 : Int32)), (.ref ll), (.long q), (.ref a4), (.ref a4)]))
      refine own_go (own_ldJ X5 hx hZ e5 l_A_4 (g := (mkF m 30 #[.val (.ref a), .val (.long q), .second, .val (.ref lo), .val (.ref lo), .val (.int (0 : Int32)), .unset] [(.int (0 : Int32)), (.ref ll), (.long q), (.ref a4), (.ref a4)])) rfl rfl (hb hby d12_30) 0 (by decide) (x := (.long y0.2.1)) vl0) ?_
      refine own_go (fun _ => XT.ladd X5.here hx rfl (hb hby d12_31) rfl) ?_
      refine own_go (fun _ => XS.aloadN X5.here hx rfl (hb hby d12_32) rfl rfl) ?_
      obtain ⟨T6, X6, e6, st6⟩ := getF X5 hx hZ hown (host := "") (Or.inl (hw _ (List.mem_of_getElem? (i := 15) rfl))) Via.refl e5 o_member_4 (g := (mkF m 33 #[.val (.ref a), .val (.long q), .second, .val (.ref lo), .val (.ref lo), .val (.int (0 : Int32)), .unset] [(.ref a), (.long (q + y0.2.1)), (.ref a4), (.ref a4)])) rfl rfl (hb hby d12_33)
      refine own_go st6 ?_
      show own_Go p e below _ (T6.setTop (mkF m 36 #[.val (.ref a), .val (.long q), .second, .val (.ref lo), .val (.ref lo), .val (.int (0 : Int32)), .unset] [(.ref kk), (.long (q + y0.2.1)), (.ref a4), (.ref a4)]))
      refine own_go (fun _ => XS.iload X6.here hx rfl (hb hby d12_36) rfl) ?_
      refine own_go (own_ldI X6 hx hZ e6 k_A_4 (g := (mkF m 38 #[.val (.ref a), .val (.long q), .second, .val (.ref lo), .val (.ref lo), .val (.int (0 : Int32)), .unset] [(.int (0 : Int32)), (.ref kk), (.long (q + y0.2.1)), (.ref a4), (.ref a4)])) rfl rfl (hb hby d12_38) 0 (by decide) (x := (.int y0.2.2)) vk0) ?_
      obtain ⟨_, T7, L7, X7, ⟨rfl, Nc7, Kc7, S7⟩, st7⟩ := own_callI X6 hx hZ hown rfl (argsL := [(.long (q + y0.2.1)), (.int y0.2.2)]) (rest := [(.ref a4)]) (own_stampI_con l Z a0 hw a4 (q + y0.2.1) y0.2.2 n0 h4 C4 n_counter_4 n_member_4 gna []) e6 (hw _ (List.mem_of_getElem? (i := 82) rfl)) (hw _ (List.mem_of_getElem? (i := 21) rfl)) (hw _ (List.mem_of_getElem? (i := 19) rfl)) (hw _ (List.mem_of_getElem? (i := 22) rfl)) (by decide) (by decide +kernel : parseMethodDescriptor "(JI)V" = some ⟨[.long, .int], none⟩) rfl (g := (mkF m 39 #[.val (.ref a), .val (.long q), .second, .val (.ref lo), .val (.ref lo), .val (.int (0 : Int32)), .unset] [(.int y0.2.2), (.long (q + y0.2.1)), (.ref a4), (.ref a4)])) rfl (by rw [hml]; rfl) rfl 1 (by show 2 * 0 + _ ≤ _; exact Nat.le_of_eq rfl) (hb hby d12_39) (by decide) (by decide) (by decide) (by decide)
      have N7 := Fr.app N0 Nc7
      have o_E_7 := o_E_4.keep Kc7
      have o_from_7 := o_from_4.keep Kc7 (ninS ne_a_a4 nin0)
      have o_lead_7 := o_lead_4.keep Kc7 (ninS ne_a_a4 nin0)
      have o_member_7 := o_member_4.keep Kc7 (ninS ne_a_a4 nin0)
      have o_start_7 := o_start_4.keep Kc7 (ninS ne_a_a4 nin0)
      have o_end_7 := o_end_4.keep Kc7 (ninS ne_a_a4 nin0)
      have f_A_7 := f_A_4.keep Kc7 (ninS ne_ff_a4 nin0)
      have l_A_7 := l_A_4.keep Kc7 (ninS ne_ll_a4 nin0)
      have k_A_7 := k_A_4.keep Kc7 (ninS ne_kk_a4 nin0)
      have lo_E_7 := lo_E_4.keep Kc7
      have n_E_7 := C4.keep Kc7
      have K7 := K4.trans Kc7 (allS (Or.inr (Nat.le_of_eq q4.symm)) all0)
      refine own_go st7 ?_
      refine own_go (fun _ => XS.astore X7.here hx rfl (hb hby d12_42) rfl rfl (l' := #[.val (.ref a), .val (.long q), .second, .val (.ref lo), .val (.ref lo), .val (.int (0 : Int32)), .val (.ref a4)]) rfl) ?_
      show own_Go p e below _ (T7.setTop (mkF m 44 #[.val (.ref a), .val (.long q), .second, .val (.ref lo), .val (.ref lo), .val (.int (0 : Int32)), .val (.ref a4)] []))
      refine own_go (fun _ => XS.aload X7.here hx rfl (hb hby d12_44) rfl rfl) ?_
      refine own_go (fun _ => XS.aloadN X7.here hx rfl (hb hby d12_46) rfl rfl) ?_
      have S2 := S1.keep Kc7 (ninS ne_lo_a4 nin0)
      obtain ⟨_, T8, L8, X8, ⟨rfl, eh8, rfl⟩, st8⟩ := own_callV X7 hx hZ hown (argsL := [(.ref lo)]) (rest := []) (own_isAfter_con l Z a0 hw a4 lo (q + y0.2.1) (-9223372036854775808 : Int64) y0.2.2 0 T7.heap S7 S2 p0 []) rfl n_E_7 (hw _ (List.mem_of_getElem? (i := 83) rfl)) (hw _ (List.mem_of_getElem? (i := 84) rfl)) (hw _ (List.mem_of_getElem? (i := 86) rfl)) (hw _ (List.mem_of_getElem? (i := 85) rfl)) (hw _ (List.mem_of_getElem? (i := 19) rfl)) (hw _ (List.mem_of_getElem? (i := 87) rfl)) (notFace_of_selects (args := #[]) (mvT hZ (hw _ (List.mem_of_getElem? (i := 86) rfl)))) (by decide) (by decide +kernel : parseMethodDescriptor "(Ltidemark/model/Stamp;)Z" = some ⟨[(.object "tidemark/model/Stamp")], some .boolean⟩) rfl (g := (mkF m 47 #[.val (.ref a), .val (.long q), .second, .val (.ref lo), .val (.ref lo), .val (.int (0 : Int32)), .val (.ref a4)] [(.ref lo), (.ref a4)])) rfl (by rw [hml]; rfl) rfl 0 (by show 2 * 0 + _ ≤ _; exact Nat.le_of_eq rfl) (hb hby d12_47) (by decide) (by decide) (by decide) (by decide)
      rw [List.append_nil] at X8
      refine own_go st8 ?_
      refine own_go (fun _ => XS.ifNo X8.here hx rfl (hb hby d12_50) rfl (XT.i0_eq_f (by decide))) ?_
      show own_Go p e below _ (T8.setTop (mkF m 53 #[.val (.ref a), .val (.long q), .second, .val (.ref lo), .val (.ref lo), .val (.int (0 : Int32)), .val (.ref a4)] []))
      refine own_go (fun _ => XS.aload X8.here hx rfl (hb hby d12_53) rfl rfl) ?_
      refine own_go (fun _ => XS.goto X8.here hx rfl (pc0 := 55) (pc' := 59) rfl (hb hby d12_55) (by decide) (by decide)) ?_
      refine own_go (fun _ => XS.astore X8.here hx rfl (hb hby d12_59) rfl rfl (l' := #[.val (.ref a), .val (.long q), .second, .val (.ref lo), .val (.ref a4), .val (.int (0 : Int32)), .val (.ref a4)]) rfl) ?_
      refine own_go (fun _ => XS.aload X8.here hx rfl (hb hby d12_61) rfl rfl) ?_
      show own_Go p e below _ (T8.setTop (mkF m 63 #[.val (.ref a), .val (.long q), .second, .val (.ref lo), .val (.ref a4), .val (.int (0 : Int32)), .val (.ref a4)] [(.ref a4)]))
      exact own_aret X8 hx hlk hret rfl rfl (hb hby d12_63) (by decide) (by decide) (by rw [eh8]; exact ⟨_, rfl, N7, K7, S7⟩)
  · skip
    by_cases hc2 : q < y2.1
    · skip
      have ef : (if q < y1.1 then (if q < y0.1 then (-1 : Int32) else 0) else (if q < y2.1 then 1 else 2)) = (1 : Int32) := by simp only [hc1, hc2, if_true, if_false]
      show own_Go p e below _ (T1.setTop (mkF m 8 #[.val (.ref a), .val (.long q), .second, .val (.ref lo), .val (.ref lo), .unset, .unset] [(.int (if q < y1.1 then (if q < y0.1 then (-1 : Int32) else 0) else (if q < y2.1 then 1 else 2)))]))
      rw [ef]
      refine own_go (fun _ => XS.istore X1.here hx rfl (hb hby d12_8) rfl (l' := #[.val (.ref a), .val (.long q), .second, .val (.ref lo), .val (.ref lo), .val (.int (1 : Int32)), .unset]) rfl) ?_
      refine own_go (fun _ => XS.iload X1.here hx rfl (hb hby d12_10) rfl) ?_
      refine own_go (fun _ => XS.aloadN X1.here hx rfl (hb hby d12_12) rfl rfl) ?_
      show own_Go p e below _ (T1.setTop (mkF m 13 #[.val (.ref a), .val (.long q), .second, .val (.ref lo), .val (.ref lo), .val (.int (1 : Int32)), .unset] [(.ref a), (.int (1 : Int32))]))
      obtain ⟨T9, X9, e9, st9⟩ := getF X1 hx hZ hown (host := "") (Or.inl (hw _ (List.mem_of_getElem? (i := 54) rfl))) Via.refl eh1 o_start0 (g := (mkF m 13 #[.val (.ref a), .val (.long q), .second, .val (.ref lo), .val (.ref lo), .val (.int (1 : Int32)), .unset] [(.ref a), (.int (1 : Int32))])) rfl rfl (hb hby d12_13)
      refine own_go st9 ?_
      have ea : own_ans [y0, y1, y2] q = (q + y1.2.1, y1.2.2) := by simp only [own_ans, hc1, hc2, if_true, if_false]
      rw [ea]
      refine own_go (fun _ => XS.icmpNo X9.here hx rfl (hb hby d12_16) rfl (XT.ii_lt_f (by decide))) ?_
      have lo_E0 := S0.1
      obtain ⟨T10, h10, X10, e10, E10, C10, D10, -, st10⟩ := newO X9 hx hZ hown (hw _ (List.mem_of_getElem? (i := 81) rfl)) (hw _ (List.mem_of_getElem? (i := 18) rfl)) (hw _ (List.mem_of_getElem? (i := 19) rfl)) e9 (g := (mkF m 19 #[.val (.ref a), .val (.long q), .second, .val (.ref lo), .val (.ref lo), .val (.int (1 : Int32)), .unset] [])) rfl (hb hby d12_19) (by decide) (by decide)
      obtain ⟨a10, q10⟩ : ∃ z, z = h0.size := ⟨_, rfl⟩
      rw [← q10] at C10 D10 st10
      have ne_a_a10 : a ≠ a10 := fun z => absurd o_E0.lt (by rw [z, q10]; exact Nat.lt_irrefl _)
      have ne_ff_a10 : ff ≠ a10 := fun z => absurd f_A0.lt (by rw [z, q10]; exact Nat.lt_irrefl _)
      have ne_kk_a10 : kk ≠ a10 := fun z => absurd k_A0.lt (by rw [z, q10]; exact Nat.lt_irrefl _)
      have ne_ll_a10 : ll ≠ a10 := fun z => absurd l_A0.lt (by rw [z, q10]; exact Nat.lt_irrefl _)
      have ne_lo_a10 : lo ≠ a10 := fun z => absurd lo_E0.lt (by rw [z, q10]; exact Nat.lt_irrefl _)
      have o_E_10 := o_E0.ext E10
      have o_from_10 := o_from0.ext E10
      have o_lead_10 := o_lead0.ext E10
      have o_member_10 := o_member0.ext E10
      have o_start_10 := o_start0.ext E10
      have o_end_10 := o_end0.ext E10
      have f_A_10 := f_A0.ext E10
      have l_A_10 := l_A0.ext E10
      have k_A_10 := k_A0.ext E10
      have lo_E_10 := lo_E0.ext E10
      have K10 := K0.ext E10
      have n_counter_10 := D10 (Or.inr (hw _ (List.mem_of_getElem? (i := 30) rfl))) (ty := .long) (by decide)
      have n_member_10 := D10 (Or.inr (hw _ (List.mem_of_getElem? (i := 32) rfl))) (ty := .int) (by decide)
      refine own_go st10 ?_
      have S1 := S0.ext E10
      have gna : n0 ≤ a10 := by rw [q10]; exact gn
      refine own_go (fun _ => XS.dup X10.here hx rfl (hb hby d12_22) rfl rfl) ?_
      show own_Go p e below _ (T10.setTop (mkF m 23 #[.val (.ref a), .val (.long q), .second, .val (.ref lo), .val (.ref lo), .val (.int (1 : Int32)), .unset] [(.ref a10), (.ref a10)]))
      refine own_go (fun _ => XT.lloadN X10.here hx rfl (hb hby d12_23) rfl) ?_
      refine own_go (fun _ => XS.aloadN X10.here hx rfl (hb hby d12_24) rfl rfl) ?_
      obtain ⟨T11, X11, e11, st11⟩ := getF X10 hx hZ hown (host := "") (Or.inl (hw _ (List.mem_of_getElem? (i := 12) rfl))) Via.refl e10 o_lead_10 (g := (mkF m 25 #[.val (.ref a), .val (.long q), .second, .val (.ref lo), .val (.ref lo), .val (.int (1 : Int32)), .unset] [(.ref a), (.long q), (.ref a10), (.ref a10)])) rfl rfl (hb hby d12_25)
      refine own_go st11 ?_
      refine own_go (fun _ => XS.iload X11.here hx rfl (hb hby d12_28) rfl) ?_
      show own_Go p e below _ (T11.setTop (mkF m 30 #[.val (.ref a), .val (.long q), .second, .val (.ref lo), .val (.ref lo), .val (.int (1 : Int32)), .unset] [(.int (1 : Int32)), (.ref ll), (.long q), (.ref a10), (.ref a10)]))
      refine own_go (own_ldJ X11 hx hZ e11 l_A_10 (g := (mkF m 30 #[.val (.ref a), .val (.long q), .second, .val (.ref lo), .val (.ref lo), .val (.int (1 : Int32)), .unset] [(.int (1 : Int32)), (.ref ll), (.long q), (.ref a10), (.ref a10)])) rfl rfl (hb hby d12_30) 1 (by decide) (x := (.long y1.2.1)) vl1) ?_
      refine own_go (fun _ => XT.ladd X11.here hx rfl (hb hby d12_31) rfl) ?_
      refine own_go (fun _ => XS.aloadN X11.here hx rfl (hb hby d12_32) rfl rfl) ?_
      obtain ⟨T12, X12, e12, st12⟩ := getF X11 hx hZ hown (host := "") (Or.inl (hw _ (List.mem_of_getElem? (i := 15) rfl))) Via.refl e11 o_member_10 (g := (mkF m 33 #[.val (.ref a), .val (.long q), .second, .val (.ref lo), .val (.ref lo), .val (.int (1 : Int32)), .unset] [(.ref a), (.long (q + y1.2.1)), (.ref a10), (.ref a10)])) rfl rfl (hb hby d12_33)
      refine own_go st12 ?_
      show own_Go p e below _ (T12.setTop (mkF m 36 #[.val (.ref a), .val (.long q), .second, .val (.ref lo), .val (.ref lo), .val (.int (1 : Int32)), .unset] [(.ref kk), (.long (q + y1.2.1)), (.ref a10), (.ref a10)]))
      refine own_go (fun _ => XS.iload X12.here hx rfl (hb hby d12_36) rfl) ?_
      refine own_go (own_ldI X12 hx hZ e12 k_A_10 (g := (mkF m 38 #[.val (.ref a), .val (.long q), .second, .val (.ref lo), .val (.ref lo), .val (.int (1 : Int32)), .unset] [(.int (1 : Int32)), (.ref kk), (.long (q + y1.2.1)), (.ref a10), (.ref a10)])) rfl rfl (hb hby d12_38) 1 (by decide) (x := (.int y1.2.2)) vk1) ?_
      obtain ⟨_, T13, L13, X13, ⟨rfl, Nc13, Kc13, S13⟩, st13⟩ := own_callI X12 hx hZ hown rfl (argsL := [(.long (q + y1.2.1)), (.int y1.2.2)]) (rest := [(.ref a10)]) (own_stampI_con l Z a0 hw a10 (q + y1.2.1) y1.2.2 n0 h10 C10 n_counter_10 n_member_10 gna []) e12 (hw _ (List.mem_of_getElem? (i := 82) rfl)) (hw _ (List.mem_of_getElem? (i := 21) rfl)) (hw _ (List.mem_of_getElem? (i := 19) rfl)) (hw _ (List.mem_of_getElem? (i := 22) rfl)) (by decide) (by decide +kernel : parseMethodDescriptor "(JI)V" = some ⟨[.long, .int], none⟩) rfl (g := (mkF m 39 #[.val (.ref a), .val (.long q), .second, .val (.ref lo), .val (.ref lo), .val (.int (1 : Int32)), .unset] [(.int y1.2.2), (.long (q + y1.2.1)), (.ref a10), (.ref a10)])) rfl (by rw [hml]; rfl) rfl 1 (by show 2 * 0 + _ ≤ _; exact Nat.le_of_eq rfl) (hb hby d12_39) (by decide) (by decide) (by decide) (by decide)
      have N13 := Fr.app N0 Nc13
      have o_E_13 := o_E_10.keep Kc13
      have o_from_13 := o_from_10.keep Kc13 (ninS ne_a_a10 nin0)
      have o_lead_13 := o_lead_10.keep Kc13 (ninS ne_a_a10 nin0)
      have o_member_13 := o_member_10.keep Kc13 (ninS ne_a_a10 nin0)
      have o_start_13 := o_start_10.keep Kc13 (ninS ne_a_a10 nin0)
      have o_end_13 := o_end_10.keep Kc13 (ninS ne_a_a10 nin0)
      have f_A_13 := f_A_10.keep Kc13 (ninS ne_ff_a10 nin0)
      have l_A_13 := l_A_10.keep Kc13 (ninS ne_ll_a10 nin0)
      have k_A_13 := k_A_10.keep Kc13 (ninS ne_kk_a10 nin0)
      have lo_E_13 := lo_E_10.keep Kc13
      have n_E_13 := C10.keep Kc13
      have K13 := K10.trans Kc13 (allS (Or.inr (Nat.le_of_eq q10.symm)) all0)
      refine own_go st13 ?_
      refine own_go (fun _ => XS.astore X13.here hx rfl (hb hby d12_42) rfl rfl (l' := #[.val (.ref a), .val (.long q), .second, .val (.ref lo), .val (.ref lo), .val (.int (1 : Int32)), .val (.ref a10)]) rfl) ?_
      show own_Go p e below _ (T13.setTop (mkF m 44 #[.val (.ref a), .val (.long q), .second, .val (.ref lo), .val (.ref lo), .val (.int (1 : Int32)), .val (.ref a10)] []))
      refine own_go (fun _ => XS.aload X13.here hx rfl (hb hby d12_44) rfl rfl) ?_
      refine own_go (fun _ => XS.aloadN X13.here hx rfl (hb hby d12_46) rfl rfl) ?_
      have S2 := S1.keep Kc13 (ninS ne_lo_a10 nin0)
      obtain ⟨_, T14, L14, X14, ⟨rfl, eh14, rfl⟩, st14⟩ := own_callV X13 hx hZ hown (argsL := [(.ref lo)]) (rest := []) (own_isAfter_con l Z a0 hw a10 lo (q + y1.2.1) (-9223372036854775808 : Int64) y1.2.2 0 T13.heap S13 S2 p1 []) rfl n_E_13 (hw _ (List.mem_of_getElem? (i := 83) rfl)) (hw _ (List.mem_of_getElem? (i := 84) rfl)) (hw _ (List.mem_of_getElem? (i := 86) rfl)) (hw _ (List.mem_of_getElem? (i := 85) rfl)) (hw _ (List.mem_of_getElem? (i := 19) rfl)) (hw _ (List.mem_of_getElem? (i := 87) rfl)) (notFace_of_selects (args := #[]) (mvT hZ (hw _ (List.mem_of_getElem? (i := 86) rfl)))) (by decide) (by decide +kernel : parseMethodDescriptor "(Ltidemark/model/Stamp;)Z" = some ⟨[(.object "tidemark/model/Stamp")], some .boolean⟩) rfl (g := (mkF m 47 #[.val (.ref a), .val (.long q), .second, .val (.ref lo), .val (.ref lo), .val (.int (1 : Int32)), .val (.ref a10)] [(.ref lo), (.ref a10)])) rfl (by rw [hml]; rfl) rfl 0 (by show 2 * 0 + _ ≤ _; exact Nat.le_of_eq rfl) (hb hby d12_47) (by decide) (by decide) (by decide) (by decide)
      rw [List.append_nil] at X14
      refine own_go st14 ?_
      refine own_go (fun _ => XS.ifNo X14.here hx rfl (hb hby d12_50) rfl (XT.i0_eq_f (by decide))) ?_
      show own_Go p e below _ (T14.setTop (mkF m 53 #[.val (.ref a), .val (.long q), .second, .val (.ref lo), .val (.ref lo), .val (.int (1 : Int32)), .val (.ref a10)] []))
      refine own_go (fun _ => XS.aload X14.here hx rfl (hb hby d12_53) rfl rfl) ?_
      refine own_go (fun _ => XS.goto X14.here hx rfl (pc0 := 55) (pc' := 59) rfl (hb hby d12_55) (by decide) (by decide)) ?_
      refine own_go (fun _ => XS.astore X14.here hx rfl (hb hby d12_59) rfl rfl (l' := #[.val (.ref a), .val (.long q), .second, .val (.ref lo), .val (.ref a10), .val (.int (1 : Int32)), .val (.ref a10)]) rfl) ?_
      refine own_go (fun _ => XS.aload X14.here hx rfl (hb hby d12_61) rfl rfl) ?_
      show own_Go p e below _ (T14.setTop (mkF m 63 #[.val (.ref a), .val (.long q), .second, .val (.ref lo), .val (.ref a10), .val (.int (1 : Int32)), .val (.ref a10)] [(.ref a10)]))
      exact own_aret X14 hx hlk hret rfl rfl (hb hby d12_63) (by decide) (by decide) (by rw [eh14]; exact ⟨_, rfl, N13, K13, S13⟩)
    · skip
      have ef : (if q < y1.1 then (if q < y0.1 then (-1 : Int32) else 0) else (if q < y2.1 then 1 else 2)) = (2 : Int32) := by simp only [hc1, hc2, if_true, if_false]
      show own_Go p e below _ (T1.setTop (mkF m 8 #[.val (.ref a), .val (.long q), .second, .val (.ref lo), .val (.ref lo), .unset, .unset] [(.int (if q < y1.1 then (if q < y0.1 then (-1 : Int32) else 0) else (if q < y2.1 then 1 else 2)))]))
      rw [ef]
      refine own_go (fun _ => XS.istore X1.here hx rfl (hb hby d12_8) rfl (l' := #[.val (.ref a), .val (.long q), .second, .val (.ref lo), .val (.ref lo), .val (.int (2 : Int32)), .unset]) rfl) ?_
      refine own_go (fun _ => XS.iload X1.here hx rfl (hb hby d12_10) rfl) ?_
      refine own_go (fun _ => XS.aloadN X1.here hx rfl (hb hby d12_12) rfl rfl) ?_
      show own_Go p e below _ (T1.setTop (mkF m 13 #[.val (.ref a), .val (.long q), .second, .val (.ref lo), .val (.ref lo), .val (.int (2 : Int32)), .unset] [(.ref a), (.int (2 : Int32))]))
      obtain ⟨T15, X15, e15, st15⟩ := getF X1 hx hZ hown (host := "") (Or.inl (hw _ (List.mem_of_getElem? (i := 54) rfl))) Via.refl eh1 o_start0 (g := (mkF m 13 #[.val (.ref a), .val (.long q), .second, .val (.ref lo), .val (.ref lo), .val (.int (2 : Int32)), .unset] [(.ref a), (.int (2 : Int32))])) rfl rfl (hb hby d12_13)
      refine own_go st15 ?_
      have ea : own_ans [y0, y1, y2] q = (q + y2.2.1, y2.2.2) := by simp only [own_ans, hc1, hc2, if_true, if_false]
      rw [ea]
      refine own_go (fun _ => XS.icmpNo X15.here hx rfl (hb hby d12_16) rfl (XT.ii_lt_f (by decide))) ?_
      have lo_E0 := S0.1
      obtain ⟨T16, h16, X16, e16, E16, C16, D16, -, st16⟩ := newO X15 hx hZ hown (hw _ (List.mem_of_getElem? (i := 81) rfl)) (hw _ (List.mem_of_getElem? (i := 18) rfl)) (hw _ (List.mem_of_getElem? (i := 19) rfl)) e15 (g := (mkF m 19 #[.val (.ref a), .val (.long q), .second, .val (.ref lo), .val (.ref lo), .val (.int (2 : Int32)), .unset] [])) rfl (hb hby d12_19) (by decide) (by decide)
      obtain ⟨a16, q16⟩ : ∃ z, z = h0.size := ⟨_, rfl⟩
      rw [← q16] at C16 D16 st16
      have ne_a_a16 : a ≠ a16 := fun z => absurd o_E0.lt (by rw [z, q16]; exact Nat.lt_irrefl _)
      have ne_ff_a16 : ff ≠ a16 := fun z => absurd f_A0.lt (by rw [z, q16]; exact Nat.lt_irrefl _)
      have ne_kk_a16 : kk ≠ a16 := fun z => absurd k_A0.lt (by rw [z, q16]; exact Nat.lt_irrefl _)
      have ne_ll_a16 : ll ≠ a16 := fun z => absurd l_A0.lt (by rw [z, q16]; exact Nat.lt_irrefl _)
      have ne_lo_a16 : lo ≠ a16 := fun z => absurd lo_E0.lt (by rw [z, q16]; exact Nat.lt_irrefl _)
      have o_E_16 := o_E0.ext E16
      have o_from_16 := o_from0.ext E16
      have o_lead_16 := o_lead0.ext E16
      have o_member_16 := o_member0.ext E16
      have o_start_16 := o_start0.ext E16
      have o_end_16 := o_end0.ext E16
      have f_A_16 := f_A0.ext E16
      have l_A_16 := l_A0.ext E16
      have k_A_16 := k_A0.ext E16
      have lo_E_16 := lo_E0.ext E16
      have K16 := K0.ext E16
      have n_counter_16 := D16 (Or.inr (hw _ (List.mem_of_getElem? (i := 30) rfl))) (ty := .long) (by decide)
      have n_member_16 := D16 (Or.inr (hw _ (List.mem_of_getElem? (i := 32) rfl))) (ty := .int) (by decide)
      refine own_go st16 ?_
      have S1 := S0.ext E16
      have gna : n0 ≤ a16 := by rw [q16]; exact gn
      refine own_go (fun _ => XS.dup X16.here hx rfl (hb hby d12_22) rfl rfl) ?_
      show own_Go p e below _ (T16.setTop (mkF m 23 #[.val (.ref a), .val (.long q), .second, .val (.ref lo), .val (.ref lo), .val (.int (2 : Int32)), .unset] [(.ref a16), (.ref a16)]))
      refine own_go (fun _ => XT.lloadN X16.here hx rfl (hb hby d12_23) rfl) ?_
      refine own_go (fun _ => XS.aloadN X16.here hx rfl (hb hby d12_24) rfl rfl) ?_
      obtain ⟨T17, X17, e17, st17⟩ := getF X16 hx hZ hown (host := "") (Or.inl (hw _ (List.mem_of_getElem? (i := 12) rfl))) Via.refl e16 o_lead_16 (g := (mkF m 25 #[.val (.ref a), .val (.long q), .second, .val (.ref lo), .val (.ref lo), .val (.int (2 : Int32)), .unset] [(.ref a), (.long q), (.ref a16), (.ref a16)])) rfl rfl (hb hby d12_25)
      refine own_go st17 ?_
      refine own_go (fun _ => XS.iload X17.here hx rfl (hb hby d12_28) rfl) ?_
      show own_Go p e below _ (T17.setTop (mkF m 30 #[.val (.ref a), .val (.long q), .second, .val (.ref lo), .val (.ref lo), .val (.int (2 : Int32)), .unset] [(.int (2 : Int32)), (.ref ll), (.long q), (.ref a16), (.ref a16)]))
      refine own_go (own_ldJ X17 hx hZ e17 l_A_16 (g := (mkF m 30 #[.val (.ref a), .val (.long q), .second, .val (.ref lo), .val (.ref lo), .val (.int (2 : Int32)), .unset] [(.int (2 : Int32)), (.ref ll), (.long q), (.ref a16), (.ref a16)])) rfl rfl (hb hby d12_30) 2 (by decide) (x := (.long y2.2.1)) vl2) ?_
      refine own_go (fun _ => XT.ladd X17.here hx rfl (hb hby d12_31) rfl) ?_
      refine own_go (fun _ => XS.aloadN X17.here hx rfl (hb hby d12_32) rfl rfl) ?_
      obtain ⟨T18, X18, e18, st18⟩ := getF X17 hx hZ hown (host := "") (Or.inl (hw _ (List.mem_of_getElem? (i := 15) rfl))) Via.refl e17 o_member_16 (g := (mkF m 33 #[.val (.ref a), .val (.long q), .second, .val (.ref lo), .val (.ref lo), .val (.int (2 : Int32)), .unset] [(.ref a), (.long (q + y2.2.1)), (.ref a16), (.ref a16)])) rfl rfl (hb hby d12_33)
      refine own_go st18 ?_
      show own_Go p e below _ (T18.setTop (mkF m 36 #[.val (.ref a), .val (.long q), .second, .val (.ref lo), .val (.ref lo), .val (.int (2 : Int32)), .unset] [(.ref kk), (.long (q + y2.2.1)), (.ref a16), (.ref a16)]))
      refine own_go (fun _ => XS.iload X18.here hx rfl (hb hby d12_36) rfl) ?_
      refine own_go (own_ldI X18 hx hZ e18 k_A_16 (g := (mkF m 38 #[.val (.ref a), .val (.long q), .second, .val (.ref lo), .val (.ref lo), .val (.int (2 : Int32)), .unset] [(.int (2 : Int32)), (.ref kk), (.long (q + y2.2.1)), (.ref a16), (.ref a16)])) rfl rfl (hb hby d12_38) 2 (by decide) (x := (.int y2.2.2)) vk2) ?_
      obtain ⟨_, T19, L19, X19, ⟨rfl, Nc19, Kc19, S19⟩, st19⟩ := own_callI X18 hx hZ hown rfl (argsL := [(.long (q + y2.2.1)), (.int y2.2.2)]) (rest := [(.ref a16)]) (own_stampI_con l Z a0 hw a16 (q + y2.2.1) y2.2.2 n0 h16 C16 n_counter_16 n_member_16 gna []) e18 (hw _ (List.mem_of_getElem? (i := 82) rfl)) (hw _ (List.mem_of_getElem? (i := 21) rfl)) (hw _ (List.mem_of_getElem? (i := 19) rfl)) (hw _ (List.mem_of_getElem? (i := 22) rfl)) (by decide) (by decide +kernel : parseMethodDescriptor "(JI)V" = some ⟨[.long, .int], none⟩) rfl (g := (mkF m 39 #[.val (.ref a), .val (.long q), .second, .val (.ref lo), .val (.ref lo), .val (.int (2 : Int32)), .unset] [(.int y2.2.2), (.long (q + y2.2.1)), (.ref a16), (.ref a16)])) rfl (by rw [hml]; rfl) rfl 1 (by show 2 * 0 + _ ≤ _; exact Nat.le_of_eq rfl) (hb hby d12_39) (by decide) (by decide) (by decide) (by decide)
      have N19 := Fr.app N0 Nc19
      have o_E_19 := o_E_16.keep Kc19
      have o_from_19 := o_from_16.keep Kc19 (ninS ne_a_a16 nin0)
      have o_lead_19 := o_lead_16.keep Kc19 (ninS ne_a_a16 nin0)
      have o_member_19 := o_member_16.keep Kc19 (ninS ne_a_a16 nin0)
      have o_start_19 := o_start_16.keep Kc19 (ninS ne_a_a16 nin0)
      have o_end_19 := o_end_16.keep Kc19 (ninS ne_a_a16 nin0)
      have f_A_19 := f_A_16.keep Kc19 (ninS ne_ff_a16 nin0)
      have l_A_19 := l_A_16.keep Kc19 (ninS ne_ll_a16 nin0)
      have k_A_19 := k_A_16.keep Kc19 (ninS ne_kk_a16 nin0)
      have lo_E_19 := lo_E_16.keep Kc19
      have n_E_19 := C16.keep Kc19
      have K19 := K16.trans Kc19 (allS (Or.inr (Nat.le_of_eq q16.symm)) all0)
      refine own_go st19 ?_
      refine own_go (fun _ => XS.astore X19.here hx rfl (hb hby d12_42) rfl rfl (l' := #[.val (.ref a), .val (.long q), .second, .val (.ref lo), .val (.ref lo), .val (.int (2 : Int32)), .val (.ref a16)]) rfl) ?_
      show own_Go p e below _ (T19.setTop (mkF m 44 #[.val (.ref a), .val (.long q), .second, .val (.ref lo), .val (.ref lo), .val (.int (2 : Int32)), .val (.ref a16)] []))
      refine own_go (fun _ => XS.aload X19.here hx rfl (hb hby d12_44) rfl rfl) ?_
      refine own_go (fun _ => XS.aloadN X19.here hx rfl (hb hby d12_46) rfl rfl) ?_
      have S2 := S1.keep Kc19 (ninS ne_lo_a16 nin0)
      obtain ⟨_, T20, L20, X20, ⟨rfl, eh20, rfl⟩, st20⟩ := own_callV X19 hx hZ hown (argsL := [(.ref lo)]) (rest := []) (own_isAfter_con l Z a0 hw a16 lo (q + y2.2.1) (-9223372036854775808 : Int64) y2.2.2 0 T19.heap S19 S2 p2 []) rfl n_E_19 (hw _ (List.mem_of_getElem? (i := 83) rfl)) (hw _ (List.mem_of_getElem? (i := 84) rfl)) (hw _ (List.mem_of_getElem? (i := 86) rfl)) (hw _ (List.mem_of_getElem? (i := 85) rfl)) (hw _ (List.mem_of_getElem? (i := 19) rfl)) (hw _ (List.mem_of_getElem? (i := 87) rfl)) (notFace_of_selects (args := #[]) (mvT hZ (hw _ (List.mem_of_getElem? (i := 86) rfl)))) (by decide) (by decide +kernel : parseMethodDescriptor "(Ltidemark/model/Stamp;)Z" = some ⟨[(.object "tidemark/model/Stamp")], some .boolean⟩) rfl (g := (mkF m 47 #[.val (.ref a), .val (.long q), .second, .val (.ref lo), .val (.ref lo), .val (.int (2 : Int32)), .val (.ref a16)] [(.ref lo), (.ref a16)])) rfl (by rw [hml]; rfl) rfl 0 (by show 2 * 0 + _ ≤ _; exact Nat.le_of_eq rfl) (hb hby d12_47) (by decide) (by decide) (by decide) (by decide)
      rw [List.append_nil] at X20
      refine own_go st20 ?_
      refine own_go (fun _ => XS.ifNo X20.here hx rfl (hb hby d12_50) rfl (XT.i0_eq_f (by decide))) ?_
      show own_Go p e below _ (T20.setTop (mkF m 53 #[.val (.ref a), .val (.long q), .second, .val (.ref lo), .val (.ref lo), .val (.int (2 : Int32)), .val (.ref a16)] []))
      refine own_go (fun _ => XS.aload X20.here hx rfl (hb hby d12_53) rfl rfl) ?_
      refine own_go (fun _ => XS.goto X20.here hx rfl (pc0 := 55) (pc' := 59) rfl (hb hby d12_55) (by decide) (by decide)) ?_
      refine own_go (fun _ => XS.astore X20.here hx rfl (hb hby d12_59) rfl rfl (l' := #[.val (.ref a), .val (.long q), .second, .val (.ref lo), .val (.ref a16), .val (.int (2 : Int32)), .val (.ref a16)]) rfl) ?_
      refine own_go (fun _ => XS.aload X20.here hx rfl (hb hby d12_61) rfl rfl) ?_
      show own_Go p e below _ (T20.setTop (mkF m 63 #[.val (.ref a), .val (.long q), .second, .val (.ref lo), .val (.ref a16), .val (.int (2 : Int32)), .val (.ref a16)] [(.ref a16)]))
      exact own_aret X20 hx hlk hret rfl rfl (hb hby d12_63) (by decide) (by decide) (by rw [eh20]; exact ⟨_, rfl, N19, K19, S19⟩)
theorem own_stamp_con (l : Launch) (Z : State) (a0 : Array Value) (hw : ∀ d ∈ tables_1, d.before a0 Z = true) (a ff ll kk lo : Addr) (q : Int64) (E : List (Int64 × Int64 × Int32)) (n0 : Nat) (h0 : Heap) (hE : E.length ≤ 3) (J0 : own_St Z h0 a ff ll kk E (Int32.ofNat E.length)) (S0 : own_Stamp Z h0 lo (-9223372036854775808 : Int64) 0) (hp : ∀ e ∈ E, (-9223372036854775808 : Int64) < q + e.2.1) (gn : n0 ≤ h0.size) (ws : List Jvm.Cond) :
    own_Con l Z (⟨"tidemark/protocol/Raises", "stamp", "(JLtidemark/model/Stamp;)Ltidemark/model/Stamp;"⟩ : MethodName) prog_79_method_3_code 7 (some (.object "tidemark/model/Stamp")) ({ frames := 3, cells := 1, slots := 2, locals := 100 } : Room) #[(.ref a), (.long q), (.ref lo)] h0 (fun v h L => ∃ r, v = some (.ref r) ∧ Fr n0 L ∧ Keep h0 h [] ∧ own_Stamp Z h r (own_ans E q).1 (own_ans E q).2) ws := by
  match E, hE, J0, hp with
  | [], _, J0, _ => exact own_stamp0_con l Z a0 hw a ff ll kk lo q n0 h0 J0 S0 gn ws
  | [e0], _, J0, hp => exact own_stamp1_con l Z a0 hw a ff ll kk lo q e0 n0 h0 J0 S0 (hp _ (by simp)) gn ws
  | [e0, e1], _, J0, hp => exact own_stamp2_con l Z a0 hw a ff ll kk lo q e0 e1 n0 h0 J0 S0 (hp _ (by simp)) (hp _ (by simp)) gn ws
  | [e0, e1, e2], _, J0, hp => exact own_stamp3_con l Z a0 hw a ff ll kk lo q e0 e1 e2 n0 h0 J0 S0 (hp _ (by simp)) (hp _ (by simp)) (hp _ (by simp)) gn ws
  | _ :: _ :: _ :: _ :: _, hE, _, _ => exact absurd hE (by simp)
theorem own_St.keep {Z : State} {h h' : Heap} {a ff ll kk : Addr} {E : List (Int64 × Int64 × Int32)} {n : Int32} {ws : List Addr} (J : own_St Z h a ff ll kk E n) (K : Keep h h' ws) (qa : a ∉ ws) (qf : ff ∉ ws) (ql : ll ∉ ws) (qk : kk ∉ ws) : own_St Z h' a ff ll kk E n := by
  obtain ⟨fs, ls, ks, I, r⟩ := J
  exact ⟨fs, ls, ks, I.keep K qa qf ql qk, r⟩
theorem own_St.ext {Z : State} {h h' : Heap} {a ff ll kk : Addr} {E : List (Int64 × Int64 × Int32)} {n : Int32} (J : own_St Z h a ff ll kk E n) (X : Ext h h') : own_St Z h' a ff ll kk E n := by
  obtain ⟨fs, ls, ks, I, r⟩ := J
  exact ⟨fs, ls, ks, I.ext X, r⟩
theorem own_St.lts {Z : State} {h : Heap} {a ff ll kk : Addr} {E : List (Int64 × Int64 × Int32)} {n : Int32} (J : own_St Z h a ff ll kk E n) : a < h.size ∧ ff < h.size ∧ ll < h.size ∧ kk < h.size := by
  obtain ⟨fs, ls, ks, ⟨⟨e1, f1, l1, k1⟩, -⟩, -⟩ := J
  exact ⟨e1.lt, f1.lt, l1.lt, k1.lt⟩
theorem own_s0 (x : Int64) : x - (0 : Int64) = x := by
  apply Int64.toInt_inj.mp
  have d := c_lsub x 0
  have l0 : (0 : Int64).toInt = 0 := by decide
  have b1 := (x - (0 : Int64)).toInt_lt
  have b2 := (x - (0 : Int64)).le_toInt
  have b3 := x.toInt_lt
  have b4 := x.le_toInt
  rw [l0] at d; omega
theorem own_sc (c x : Int64) : c + x - c = x := by
  apply Int64.toInt_inj.mp
  have d := c_lsub (c + x) c
  have d2 := c_ladd c x
  have b1 := (c + x - c).toInt_lt
  have b2 := (c + x - c).le_toInt
  have b3 := x.toInt_lt
  have b4 := x.le_toInt
  omega
/-- a long that is near an int -/
def own_near (x : Int64) : Prop := -2147483648 ≤ x.toInt ∧ x.toInt ≤ 2147484200
theorem own_near.gt {x : Int64} (h : own_near x) (q : Int64) (hq : 0 ≤ q.toInt ∧ q.toInt ≤ 20) : (-9223372036854775808 : Int64) < q + x := by
  obtain ⟨h1, h2⟩ := h
  have d := c_ladd q x
  have b1 := (q + x).toInt_lt
  have b2 := (q + x).le_toInt
  have lm : (-9223372036854775808 : Int64).toInt = -9223372036854775808 := by decide
  rw [Int64.lt_iff_toInt_lt, lm]; omega
theorem own_step (x : Int64) (y : Int32) (K : Int) (hx : -2147483648 ≤ x.toInt ∧ x.toInt ≤ K) (hK : K ≤ 2147484000) : x < x + (1 : Int64) + (y &&& (255 : Int32)).toInt64 ∧ -2147483648 ≤ (x + (1 : Int64) + (y &&& (255 : Int32)).toInt64).toInt ∧ (x + (1 : Int64) + (y &&& (255 : Int32)).toInt64).toInt ≤ K + 256 := by
  have m1 : (y &&& (255 : Int32)).toInt = y.toInt % 256 := c_mask y 255 8 (by decide) (by decide)
  have e1 := c_i2l (y &&& (255 : Int32))
  have d1 := c_ladd x 1
  have d2 := c_ladd (x + (1 : Int64)) (y &&& (255 : Int32)).toInt64
  have l1 : (1 : Int64).toInt = 1 := by decide
  have b1 := (x + (1 : Int64)).toInt_lt
  have b2 := (x + (1 : Int64)).le_toInt
  have b3 := (x + (1 : Int64) + (y &&& (255 : Int32)).toInt64).toInt_lt
  have b4 := (x + (1 : Int64) + (y &&& (255 : Int32)).toInt64).le_toInt
  rw [l1] at d1
  rw [e1, m1] at d2
  rw [Int64.lt_iff_toInt_lt]
  omega
def own_Q1 (n0 : Nat) (v : Option Value) (h : Heap) (L : List Loc) : Prop := v = some (.int 1) ∧ Fr n0 L
set_option maxRecDepth 65536 in
set_option maxHeartbeats 40000000 in
theorem own_main_con (l : Launch) (Z : State) (a0 : Array Value) (hw : ∀ d ∈ tables_1, d.before a0 Z = true) (x0 : Int32) (x1 : Int32) (x2 : Int32) (x3 : Int32)  (h0 : Heap) (ws : List Jvm.Cond) :
    own_Con l Z x code maxLocals ret room_1 #[(.int x0), (.int x1), (.int x2), (.int x3)] h0 (own_Q1 h0.size) ws := by
  refine own_con (F := fun m => (mkF m 0 #[.val (.int x0), .val (.int x1), .val (.int x2), .val (.int x3), .unset, .unset, .unset, .unset, .unset, .unset, .unset, .unset, .unset, .unset, .unset, .unset, .unset, .unset, .unset, .unset, .unset, .unset, .unset, .unset, .unset, .unset, .unset, .unset, .unset, .unset, .unset] [])) (own_pn (by first | (simp [plainName, overriddenIn]; done) | decide +kernel)) (fun m => by first | (simp [entryFrame, mkF, argsToLocals, Value.category, maxLocals]; done) | rfl) ?_
  intro p e s m below meth c T X hx hby hml hZ hown hnm hret hlk eT
  show own_Go p e below (own_Out s (own_Q1 h0.size) room_1.cells room_1.slots) (T.setTop (mkF m 0 #[.val (.int x0), .val (.int x1), .val (.int x2), .val (.int x3), .unset, .unset, .unset, .unset, .unset, .unset, .unset, .unset, .unset, .unset, .unset, .unset, .unset, .unset, .unset, .unset, .unset, .unset, .unset, .unset, .unset, .unset, .unset, .unset, .unset, .unset, .unset] []))
  have N0 := Fr.nil h0.size
  have tail : ∀ (l1 l2 l3 : Int64) (m1 m2 m3 d : Int32) (v1 : own_near l1) (v2 : own_near l2) (v3 : own_near l3) (t1 : l1 < l2) (t2 : l2 < l3), own_Go p e below (own_Out s (own_Q1 h0.size) room_1.cells room_1.slots) (T.setTop (mkF m 57 #[.val (.int x0), .val (.int x1), .val (.int x2), .val (.int x3), .val (.long l1), .second, .val (.long l2), .second, .val (.long l3), .second, .val (.int m1), .val (.int m2), .val (.int m3), .val (.int d), .unset, .unset, .unset, .unset, .unset, .unset, .unset, .unset, .unset, .unset, .unset, .unset, .unset, .unset, .unset, .unset, .unset] [])) := by
    intro l1 l2 l3 m1 m2 m3 d v1 v2 v3 t1 t2
    show own_Go p e below _ (T.setTop (mkF m 57 #[.val (.int x0), .val (.int x1), .val (.int x2), .val (.int x3), .val (.long l1), .second, .val (.long l2), .second, .val (.long l3), .second, .val (.int m1), .val (.int m2), .val (.int m3), .val (.int d), .unset, .unset, .unset, .unset, .unset, .unset, .unset, .unset, .unset, .unset, .unset, .unset, .unset, .unset, .unset, .unset, .unset] []))
    obtain ⟨T1, h1, X1, e1, E1, C1, D1, -, st1⟩ := newO X hx hZ hown (hw _ (List.mem_of_getElem? (i := 0) rfl)) (hw _ (List.mem_of_getElem? (i := 1) rfl)) (hw _ (List.mem_of_getElem? (i := 2) rfl)) eT (g := (mkF m 57 #[.val (.int x0), .val (.int x1), .val (.int x2), .val (.int x3), .val (.long l1), .second, .val (.long l2), .second, .val (.long l3), .second, .val (.int m1), .val (.int m2), .val (.int m3), .val (.int d), .unset, .unset, .unset, .unset, .unset, .unset, .unset, .unset, .unset, .unset, .unset, .unset, .unset, .unset, .unset, .unset, .unset] [])) rfl (hb hby at_57) (by decide) (by decide)
    obtain ⟨a1, q1⟩ : ∃ z, z = h0.size := ⟨_, rfl⟩
    rw [← q1] at C1 D1 st1
    have o_from_1 := D1 (Or.inl (hw _ (List.mem_of_getElem? (i := 11) rfl))) (ty := (.array .long)) (by decide)
    have o_lead_1 := D1 (Or.inl (hw _ (List.mem_of_getElem? (i := 13) rfl))) (ty := (.array .long)) (by decide)
    have o_member_1 := D1 (Or.inl (hw _ (List.mem_of_getElem? (i := 16) rfl))) (ty := (.array .int)) (by decide)
    have o_start_1 := D1 (Or.inl (hw _ (List.mem_of_getElem? (i := 55) rfl))) (ty := .int) (by decide)
    have o_end_1 := D1 (Or.inl (hw _ (List.mem_of_getElem? (i := 49) rfl))) (ty := .int) (by decide)
    refine own_go st1 ?_
    refine own_go (fun _ => XS.dup X1.here hx rfl (hb hby at_60) rfl rfl) ?_
    have ga : h0.size ≤ a1 := Nat.le_of_eq q1.symm
    have gn : h0.size ≤ h1.size := E1.1
    obtain ⟨_, T2, L2, X2, ⟨rfl, Nc2, Kc2, ff, ll, kk, I2, hf, hl, hk⟩, st2⟩ := own_callI X1 hx hZ hown rfl (argsL := []) (rest := [(.ref a1)]) (own_raisesI_con l Z a0 hw a1 h0.size h1 C1 o_from_1 o_lead_1 o_member_1 o_start_1 o_end_1 ga gn []) e1 (hw _ (List.mem_of_getElem? (i := 3) rfl)) (hw _ (List.mem_of_getElem? (i := 4) rfl)) (hw _ (List.mem_of_getElem? (i := 2) rfl)) (hw _ (List.mem_of_getElem? (i := 5) rfl)) (by decide) (by decide +kernel : parseMethodDescriptor "()V" = some ⟨[], none⟩) rfl (g := (mkF m 61 #[.val (.int x0), .val (.int x1), .val (.int x2), .val (.int x3), .val (.long l1), .second, .val (.long l2), .second, .val (.long l3), .second, .val (.int m1), .val (.int m2), .val (.int m3), .val (.int d), .unset, .unset, .unset, .unset, .unset, .unset, .unset, .unset, .unset, .unset, .unset, .unset, .unset, .unset, .unset, .unset, .unset] [(.ref a1), (.ref a1)])) rfl (by rw [hml]; rfl) rfl 1 (by show 2 * 0 + _ ≤ _; exact Nat.le_of_eq rfl) (hb hby at_61) (by decide) (by decide) (by decide) (by decide)
    have N2 := Fr.app N0 Nc2
    have o_E_2 := C1.keep Kc2
    refine own_go st2 ?_
    have gf : h0.size ≤ ff := Nat.le_trans gn hf
    have gl : h0.size ≤ ll := Nat.le_trans gn hl
    have gk : h0.size ≤ kk := Nat.le_trans gn hk
    have en0 : own_En (List.replicate 8 (.long 0)) (List.replicate 8 (.long 0)) (List.replicate 8 (.int 0)) [] := fun i e q => by cases i <;> simp at q
    refine own_go (fun _ => XS.astore X2.here hx rfl (hb hby at_64) rfl rfl (l' := #[.val (.int x0), .val (.int x1), .val (.int x2), .val (.int x3), .val (.long l1), .second, .val (.long l2), .second, .val (.long l3), .second, .val (.int m1), .val (.int m2), .val (.int m3), .val (.int d), .val (.ref a1), .unset, .unset, .unset, .unset, .unset, .unset, .unset, .unset, .unset, .unset, .unset, .unset, .unset, .unset, .unset, .unset]) rfl) ?_
    refine own_go (fun _ => XS.aload X2.here hx rfl (hb hby at_66) rfl rfl) ?_
    refine own_go (fun _ => XT.lconst X2.here hx rfl (hb hby at_68)) ?_
    show own_Go p e below _ (T2.setTop (mkF m 69 #[.val (.int x0), .val (.int x1), .val (.int x2), .val (.int x3), .val (.long l1), .second, .val (.long l2), .second, .val (.long l3), .second, .val (.int m1), .val (.int m2), .val (.int m3), .val (.int d), .val (.ref a1), .unset, .unset, .unset, .unset, .unset, .unset, .unset, .unset, .unset, .unset, .unset, .unset, .unset, .unset, .unset, .unset] [(.long (0 : Int64)), (.ref a1)]))
    have lt0 : a1 < T2.heap.size := I2.1.1.lt
    have ltf0 : ff < T2.heap.size := I2.1.2.1.lt
    have ltl0 : ll < T2.heap.size := I2.1.2.2.1.lt
    have ltk0 : kk < T2.heap.size := I2.1.2.2.2.lt
    obtain ⟨T3, h3, X3, e3, E3, C3, D3, -, st3⟩ := newO X2 hx hZ hown (hw _ (List.mem_of_getElem? (i := 17) rfl)) (hw _ (List.mem_of_getElem? (i := 18) rfl)) (hw _ (List.mem_of_getElem? (i := 19) rfl)) rfl (g := (mkF m 69 #[.val (.int x0), .val (.int x1), .val (.int x2), .val (.int x3), .val (.long l1), .second, .val (.long l2), .second, .val (.long l3), .second, .val (.int m1), .val (.int m2), .val (.int m3), .val (.int d), .val (.ref a1), .unset, .unset, .unset, .unset, .unset, .unset, .unset, .unset, .unset, .unset, .unset, .unset, .unset, .unset, .unset, .unset] [(.long (0 : Int64)), (.ref a1)])) rfl (hb hby at_69) (by decide) (by decide)
    obtain ⟨a3, q3⟩ : ∃ z, z = T2.heap.size := ⟨_, rfl⟩
    rw [← q3] at C3 D3 st3
    have s_counter_3 := D3 (Or.inr (hw _ (List.mem_of_getElem? (i := 30) rfl))) (ty := .long) (by decide)
    have s_member_3 := D3 (Or.inr (hw _ (List.mem_of_getElem? (i := 32) rfl))) (ty := .int) (by decide)
    refine own_go st3 ?_
    have I0a := I2.ext E3
    have gs0 : h0.size ≤ a3 := by rw [q3]; exact Nat.le_trans ga (Nat.le_of_lt lt0)
    have ne_a1_a3 : a1 ≠ a3 := by rw [q3]; exact Nat.ne_of_lt lt0
    have ne_ff_a3 : ff ≠ a3 := by rw [q3]; exact Nat.ne_of_lt ltf0
    have ne_ll_a3 : ll ≠ a3 := by rw [q3]; exact Nat.ne_of_lt ltl0
    have ne_kk_a3 : kk ≠ a3 := by rw [q3]; exact Nat.ne_of_lt ltk0
    refine own_go (fun _ => XS.dup X3.here hx rfl (hb hby at_72) rfl rfl) ?_
    refine own_go (fun _ => XT.lload X3.here hx rfl (hb hby at_73) rfl) ?_
    refine own_go (fun _ => XS.iload X3.here hx rfl (hb hby at_75) rfl) ?_
    obtain ⟨_, T4, L4, X4, ⟨rfl, Nc4, Kc4, S4⟩, st4⟩ := own_callI X3 hx hZ hown rfl (argsL := [(.long l1), (.int m1)]) (rest := [(.ref a3), (.long (0 : Int64)), (.ref a1)]) (own_stampI_con l Z a0 hw a3 l1 m1 h0.size h3 C3 s_counter_3 s_member_3 gs0 []) e3 (hw _ (List.mem_of_getElem? (i := 20) rfl)) (hw _ (List.mem_of_getElem? (i := 21) rfl)) (hw _ (List.mem_of_getElem? (i := 19) rfl)) (hw _ (List.mem_of_getElem? (i := 22) rfl)) (by decide) (by decide +kernel : parseMethodDescriptor "(JI)V" = some ⟨[.long, .int], none⟩) rfl (g := (mkF m 77 #[.val (.int x0), .val (.int x1), .val (.int x2), .val (.int x3), .val (.long l1), .second, .val (.long l2), .second, .val (.long l3), .second, .val (.int m1), .val (.int m2), .val (.int m3), .val (.int d), .val (.ref a1), .unset, .unset, .unset, .unset, .unset, .unset, .unset, .unset, .unset, .unset, .unset, .unset, .unset, .unset, .unset, .unset] [(.int m1), (.long l1), (.ref a3), (.ref a3), (.long (0 : Int64)), (.ref a1)])) rfl (by rw [hml]; rfl) rfl 4 (by show 2 * 0 + _ ≤ _; exact Nat.le_of_eq rfl) (hb hby at_77) (by decide) (by decide) (by decide) (by decide)
    have N4 := Fr.app N2 Nc4
    have s_E_4 := C3.keep Kc4
    refine own_go st4 ?_
    have I0b := I0a.keep Kc4 (ninS ne_a1_a3 nin0) (ninS ne_ff_a3 nin0) (ninS ne_ll_a3 nin0) (ninS ne_kk_a3 nin0)
    have ex0 := I0b.1.1
    obtain ⟨_, T5, L5, X5, ⟨rfl, Nc5, Kc5, I5⟩, st5⟩ := own_callV X4 hx hZ hown (argsL := [(.long (0 : Int64)), (.ref a3)]) (rest := []) (own_add0_con l Z a0 hw a1 ff ll kk (List.replicate 8 (.long 0)) (List.replicate 8 (.long 0)) (List.replicate 8 (.int 0)) a3 (0 : Int64) l1  m1 h0.size T4.heap I0b (by simp) (by simp) (by simp) S4 ga gf gl gk []) rfl ex0 (hw _ (List.mem_of_getElem? (i := 33) rfl)) (hw _ (List.mem_of_getElem? (i := 34) rfl)) (hw _ (List.mem_of_getElem? (i := 36) rfl)) (hw _ (List.mem_of_getElem? (i := 35) rfl)) (hw _ (List.mem_of_getElem? (i := 2) rfl)) (hw _ (List.mem_of_getElem? (i := 37) rfl)) (notFace_of_selects (args := #[]) (mvT hZ (hw _ (List.mem_of_getElem? (i := 36) rfl)))) (by decide) (by decide +kernel : parseMethodDescriptor "(JLtidemark/model/Stamp;)V" = some ⟨[.long, (.object "tidemark/model/Stamp")], none⟩) rfl (g := (mkF m 80 #[.val (.int x0), .val (.int x1), .val (.int x2), .val (.int x3), .val (.long l1), .second, .val (.long l2), .second, .val (.long l3), .second, .val (.int m1), .val (.int m2), .val (.int m3), .val (.int d), .val (.ref a1), .unset, .unset, .unset, .unset, .unset, .unset, .unset, .unset, .unset, .unset, .unset, .unset, .unset, .unset, .unset, .unset] [(.ref a3), (.long (0 : Int64)), (.ref a1)])) rfl (by rw [hml]; rfl) rfl 0 (by show 2 * 0 + _ ≤ _; exact Nat.le_of_eq rfl) (hb hby at_80) (by decide) (by decide) (by decide) (by decide)
    have N5 := Fr.app N4 Nc5
    have o_E_5 := ex0.keep Kc5
    refine own_go st5 ?_
    show own_Go p e below _ (T5.setTop (mkF m 83 #[.val (.int x0), .val (.int x1), .val (.int x2), .val (.int x3), .val (.long l1), .second, .val (.long l2), .second, .val (.long l3), .second, .val (.int m1), .val (.int m2), .val (.int m3), .val (.int d), .val (.ref a1), .unset, .unset, .unset, .unset, .unset, .unset, .unset, .unset, .unset, .unset, .unset, .unset, .unset, .unset, .unset, .unset] []))
    have en1 := en0.set 0 rfl (by simp) (by simp) (by simp) ((0 : Int64), l1 - (0 : Int64), m1)
    refine own_go (fun _ => XS.aload X5.here hx rfl (hb hby at_83) rfl rfl) ?_
    refine own_go (X5.ldc2Long hx hown (mvT hZ (hw _ (List.mem_of_getElem? (i := 60) rfl))) (g := (mkF m 85 #[.val (.int x0), .val (.int x1), .val (.int x2), .val (.int x3), .val (.long l1), .second, .val (.long l2), .second, .val (.long l3), .second, .val (.int m1), .val (.int m2), .val (.int m3), .val (.int d), .val (.ref a1), .unset, .unset, .unset, .unset, .unset, .unset, .unset, .unset, .unset, .unset, .unset, .unset, .unset, .unset, .unset, .unset] [(.ref a1)])) rfl (hb hby at_85)) ?_
    have lt1 : a1 < T5.heap.size := I5.1.1.lt
    have ltf1 : ff < T5.heap.size := I5.1.2.1.lt
    have ltl1 : ll < T5.heap.size := I5.1.2.2.1.lt
    have ltk1 : kk < T5.heap.size := I5.1.2.2.2.lt
    obtain ⟨T6, h6, X6, e6, E6, C6, D6, -, st6⟩ := newO X5 hx hZ hown (hw _ (List.mem_of_getElem? (i := 17) rfl)) (hw _ (List.mem_of_getElem? (i := 18) rfl)) (hw _ (List.mem_of_getElem? (i := 19) rfl)) rfl (g := (mkF m 88 #[.val (.int x0), .val (.int x1), .val (.int x2), .val (.int x3), .val (.long l1), .second, .val (.long l2), .second, .val (.long l3), .second, .val (.int m1), .val (.int m2), .val (.int m3), .val (.int d), .val (.ref a1), .unset, .unset, .unset, .unset, .unset, .unset, .unset, .unset, .unset, .unset, .unset, .unset, .unset, .unset, .unset, .unset] [(.long (10 : Int64)), (.ref a1)])) rfl (hb hby at_88) (by decide) (by decide)
    obtain ⟨a6, q6⟩ : ∃ z, z = T5.heap.size := ⟨_, rfl⟩
    rw [← q6] at C6 D6 st6
    have s_counter_6 := D6 (Or.inr (hw _ (List.mem_of_getElem? (i := 30) rfl))) (ty := .long) (by decide)
    have s_member_6 := D6 (Or.inr (hw _ (List.mem_of_getElem? (i := 32) rfl))) (ty := .int) (by decide)
    refine own_go st6 ?_
    have I1a := I5.ext E6
    have gs1 : h0.size ≤ a6 := by rw [q6]; exact Nat.le_trans ga (Nat.le_of_lt lt1)
    have ne_a1_a6 : a1 ≠ a6 := by rw [q6]; exact Nat.ne_of_lt lt1
    have ne_ff_a6 : ff ≠ a6 := by rw [q6]; exact Nat.ne_of_lt ltf1
    have ne_ll_a6 : ll ≠ a6 := by rw [q6]; exact Nat.ne_of_lt ltl1
    have ne_kk_a6 : kk ≠ a6 := by rw [q6]; exact Nat.ne_of_lt ltk1
    refine own_go (fun _ => XS.dup X6.here hx rfl (hb hby at_91) rfl rfl) ?_
    refine own_go (X6.ldc2Long hx hown (mvT hZ (hw _ (List.mem_of_getElem? (i := 60) rfl))) (g := (mkF m 92 #[.val (.int x0), .val (.int x1), .val (.int x2), .val (.int x3), .val (.long l1), .second, .val (.long l2), .second, .val (.long l3), .second, .val (.int m1), .val (.int m2), .val (.int m3), .val (.int d), .val (.ref a1), .unset, .unset, .unset, .unset, .unset, .unset, .unset, .unset, .unset, .unset, .unset, .unset, .unset, .unset, .unset, .unset] [(.ref a6), (.ref a6), (.long (10 : Int64)), (.ref a1)])) rfl (hb hby at_92)) ?_
    refine own_go (fun _ => XT.lload X6.here hx rfl (hb hby at_95) rfl) ?_
    show own_Go p e below _ (T6.setTop (mkF m 97 #[.val (.int x0), .val (.int x1), .val (.int x2), .val (.int x3), .val (.long l1), .second, .val (.long l2), .second, .val (.long l3), .second, .val (.int m1), .val (.int m2), .val (.int m3), .val (.int d), .val (.ref a1), .unset, .unset, .unset, .unset, .unset, .unset, .unset, .unset, .unset, .unset, .unset, .unset, .unset, .unset, .unset, .unset] [(.long l2), (.long (10 : Int64)), (.ref a6), (.ref a6), (.long (10 : Int64)), (.ref a1)]))
    refine own_go (fun _ => XT.ladd X6.here hx rfl (hb hby at_97) rfl) ?_
    refine own_go (fun _ => XS.iload X6.here hx rfl (hb hby at_98) rfl) ?_
    obtain ⟨_, T7, L7, X7, ⟨rfl, Nc7, Kc7, S7⟩, st7⟩ := own_callI X6 hx hZ hown rfl (argsL := [(.long ((10 : Int64) + l2)), (.int m2)]) (rest := [(.ref a6), (.long (10 : Int64)), (.ref a1)]) (own_stampI_con l Z a0 hw a6 ((10 : Int64) + l2) m2 h0.size h6 C6 s_counter_6 s_member_6 gs1 []) e6 (hw _ (List.mem_of_getElem? (i := 20) rfl)) (hw _ (List.mem_of_getElem? (i := 21) rfl)) (hw _ (List.mem_of_getElem? (i := 19) rfl)) (hw _ (List.mem_of_getElem? (i := 22) rfl)) (by decide) (by decide +kernel : parseMethodDescriptor "(JI)V" = some ⟨[.long, .int], none⟩) rfl (g := (mkF m 100 #[.val (.int x0), .val (.int x1), .val (.int x2), .val (.int x3), .val (.long l1), .second, .val (.long l2), .second, .val (.long l3), .second, .val (.int m1), .val (.int m2), .val (.int m3), .val (.int d), .val (.ref a1), .unset, .unset, .unset, .unset, .unset, .unset, .unset, .unset, .unset, .unset, .unset, .unset, .unset, .unset, .unset, .unset] [(.int m2), (.long ((10 : Int64) + l2)), (.ref a6), (.ref a6), (.long (10 : Int64)), (.ref a1)])) rfl (by rw [hml]; rfl) rfl 4 (by show 2 * 0 + _ ≤ _; exact Nat.le_of_eq rfl) (hb hby at_100) (by decide) (by decide) (by decide) (by decide)
    have N7 := Fr.app N5 Nc7
    have s_E_7 := C6.keep Kc7
    refine own_go st7 ?_
    have I1b := I1a.keep Kc7 (ninS ne_a1_a6 nin0) (ninS ne_ff_a6 nin0) (ninS ne_ll_a6 nin0) (ninS ne_kk_a6 nin0)
    have ex1 := I1b.1.1
    obtain ⟨_, T8, L8, X8, ⟨rfl, Nc8, Kc8, I8⟩, st8⟩ := own_callV X7 hx hZ hown (argsL := [(.long (10 : Int64)), (.ref a6)]) (rest := []) (own_add1_con l Z a0 hw a1 ff ll kk ((List.replicate 8 (.long 0)).set 0 (.long (0 : Int64))) ((List.replicate 8 (.long 0)).set 0 (.long (l1 - (0 : Int64)))) ((List.replicate 8 (.int 0)).set 0 (.int m1)) a6 (10 : Int64) ((10 : Int64) + l2) (0 : Int64) m2 h0.size T7.heap I1b (by simp) (by simp) (by simp) S7 (by simp) (by decide) (l1 - 0) (by simp) (by rw [own_s0, own_sc]; exact t1) ga gf gl gk []) rfl ex1 (hw _ (List.mem_of_getElem? (i := 33) rfl)) (hw _ (List.mem_of_getElem? (i := 34) rfl)) (hw _ (List.mem_of_getElem? (i := 36) rfl)) (hw _ (List.mem_of_getElem? (i := 35) rfl)) (hw _ (List.mem_of_getElem? (i := 2) rfl)) (hw _ (List.mem_of_getElem? (i := 37) rfl)) (notFace_of_selects (args := #[]) (mvT hZ (hw _ (List.mem_of_getElem? (i := 36) rfl)))) (by decide) (by decide +kernel : parseMethodDescriptor "(JLtidemark/model/Stamp;)V" = some ⟨[.long, (.object "tidemark/model/Stamp")], none⟩) rfl (g := (mkF m 103 #[.val (.int x0), .val (.int x1), .val (.int x2), .val (.int x3), .val (.long l1), .second, .val (.long l2), .second, .val (.long l3), .second, .val (.int m1), .val (.int m2), .val (.int m3), .val (.int d), .val (.ref a1), .unset, .unset, .unset, .unset, .unset, .unset, .unset, .unset, .unset, .unset, .unset, .unset, .unset, .unset, .unset, .unset] [(.ref a6), (.long (10 : Int64)), (.ref a1)])) rfl (by rw [hml]; rfl) rfl 0 (by show 2 * 0 + _ ≤ _; exact Nat.le_of_eq rfl) (hb hby at_103) (by decide) (by decide) (by decide) (by decide)
    have N8 := Fr.app N7 Nc8
    have o_E_8 := ex1.keep Kc8
    refine own_go st8 ?_
    have en2 := en1.set 1 rfl (by simp) (by simp) (by simp) ((10 : Int64), ((10 : Int64) + l2) - (10 : Int64), m2)
    refine own_go (fun _ => XS.aload X8.here hx rfl (hb hby at_106) rfl rfl) ?_
    refine own_go (X8.ldc2Long hx hown (mvT hZ (hw _ (List.mem_of_getElem? (i := 69) rfl))) (g := (mkF m 108 #[.val (.int x0), .val (.int x1), .val (.int x2), .val (.int x3), .val (.long l1), .second, .val (.long l2), .second, .val (.long l3), .second, .val (.int m1), .val (.int m2), .val (.int m3), .val (.int d), .val (.ref a1), .unset, .unset, .unset, .unset, .unset, .unset, .unset, .unset, .unset, .unset, .unset, .unset, .unset, .unset, .unset, .unset] [(.ref a1)])) rfl (hb hby at_108)) ?_
    show own_Go p e below _ (T8.setTop (mkF m 111 #[.val (.int x0), .val (.int x1), .val (.int x2), .val (.int x3), .val (.long l1), .second, .val (.long l2), .second, .val (.long l3), .second, .val (.int m1), .val (.int m2), .val (.int m3), .val (.int d), .val (.ref a1), .unset, .unset, .unset, .unset, .unset, .unset, .unset, .unset, .unset, .unset, .unset, .unset, .unset, .unset, .unset, .unset] [(.long (20 : Int64)), (.ref a1)]))
    have lt2 : a1 < T8.heap.size := I8.1.1.lt
    have ltf2 : ff < T8.heap.size := I8.1.2.1.lt
    have ltl2 : ll < T8.heap.size := I8.1.2.2.1.lt
    have ltk2 : kk < T8.heap.size := I8.1.2.2.2.lt
    obtain ⟨T9, h9, X9, e9, E9, C9, D9, -, st9⟩ := newO X8 hx hZ hown (hw _ (List.mem_of_getElem? (i := 17) rfl)) (hw _ (List.mem_of_getElem? (i := 18) rfl)) (hw _ (List.mem_of_getElem? (i := 19) rfl)) rfl (g := (mkF m 111 #[.val (.int x0), .val (.int x1), .val (.int x2), .val (.int x3), .val (.long l1), .second, .val (.long l2), .second, .val (.long l3), .second, .val (.int m1), .val (.int m2), .val (.int m3), .val (.int d), .val (.ref a1), .unset, .unset, .unset, .unset, .unset, .unset, .unset, .unset, .unset, .unset, .unset, .unset, .unset, .unset, .unset, .unset] [(.long (20 : Int64)), (.ref a1)])) rfl (hb hby at_111) (by decide) (by decide)
    obtain ⟨a9, q9⟩ : ∃ z, z = T8.heap.size := ⟨_, rfl⟩
    rw [← q9] at C9 D9 st9
    have s_counter_9 := D9 (Or.inr (hw _ (List.mem_of_getElem? (i := 30) rfl))) (ty := .long) (by decide)
    have s_member_9 := D9 (Or.inr (hw _ (List.mem_of_getElem? (i := 32) rfl))) (ty := .int) (by decide)
    refine own_go st9 ?_
    have I2a := I8.ext E9
    have gs2 : h0.size ≤ a9 := by rw [q9]; exact Nat.le_trans ga (Nat.le_of_lt lt2)
    have ne_a1_a9 : a1 ≠ a9 := by rw [q9]; exact Nat.ne_of_lt lt2
    have ne_ff_a9 : ff ≠ a9 := by rw [q9]; exact Nat.ne_of_lt ltf2
    have ne_ll_a9 : ll ≠ a9 := by rw [q9]; exact Nat.ne_of_lt ltl2
    have ne_kk_a9 : kk ≠ a9 := by rw [q9]; exact Nat.ne_of_lt ltk2
    refine own_go (fun _ => XS.dup X9.here hx rfl (hb hby at_114) rfl rfl) ?_
    refine own_go (X9.ldc2Long hx hown (mvT hZ (hw _ (List.mem_of_getElem? (i := 69) rfl))) (g := (mkF m 115 #[.val (.int x0), .val (.int x1), .val (.int x2), .val (.int x3), .val (.long l1), .second, .val (.long l2), .second, .val (.long l3), .second, .val (.int m1), .val (.int m2), .val (.int m3), .val (.int d), .val (.ref a1), .unset, .unset, .unset, .unset, .unset, .unset, .unset, .unset, .unset, .unset, .unset, .unset, .unset, .unset, .unset, .unset] [(.ref a9), (.ref a9), (.long (20 : Int64)), (.ref a1)])) rfl (hb hby at_115)) ?_
    refine own_go (fun _ => XT.lload X9.here hx rfl (hb hby at_118) rfl) ?_
    refine own_go (fun _ => XT.ladd X9.here hx rfl (hb hby at_120) rfl) ?_
    refine own_go (fun _ => XS.iload X9.here hx rfl (hb hby at_121) rfl) ?_
    show own_Go p e below _ (T9.setTop (mkF m 123 #[.val (.int x0), .val (.int x1), .val (.int x2), .val (.int x3), .val (.long l1), .second, .val (.long l2), .second, .val (.long l3), .second, .val (.int m1), .val (.int m2), .val (.int m3), .val (.int d), .val (.ref a1), .unset, .unset, .unset, .unset, .unset, .unset, .unset, .unset, .unset, .unset, .unset, .unset, .unset, .unset, .unset, .unset] [(.int m3), (.long ((20 : Int64) + l3)), (.ref a9), (.ref a9), (.long (20 : Int64)), (.ref a1)]))
    obtain ⟨_, T10, L10, X10, ⟨rfl, Nc10, Kc10, S10⟩, st10⟩ := own_callI X9 hx hZ hown rfl (argsL := [(.long ((20 : Int64) + l3)), (.int m3)]) (rest := [(.ref a9), (.long (20 : Int64)), (.ref a1)]) (own_stampI_con l Z a0 hw a9 ((20 : Int64) + l3) m3 h0.size h9 C9 s_counter_9 s_member_9 gs2 []) e9 (hw _ (List.mem_of_getElem? (i := 20) rfl)) (hw _ (List.mem_of_getElem? (i := 21) rfl)) (hw _ (List.mem_of_getElem? (i := 19) rfl)) (hw _ (List.mem_of_getElem? (i := 22) rfl)) (by decide) (by decide +kernel : parseMethodDescriptor "(JI)V" = some ⟨[.long, .int], none⟩) rfl (g := (mkF m 123 #[.val (.int x0), .val (.int x1), .val (.int x2), .val (.int x3), .val (.long l1), .second, .val (.long l2), .second, .val (.long l3), .second, .val (.int m1), .val (.int m2), .val (.int m3), .val (.int d), .val (.ref a1), .unset, .unset, .unset, .unset, .unset, .unset, .unset, .unset, .unset, .unset, .unset, .unset, .unset, .unset, .unset, .unset] [(.int m3), (.long ((20 : Int64) + l3)), (.ref a9), (.ref a9), (.long (20 : Int64)), (.ref a1)])) rfl (by rw [hml]; rfl) rfl 4 (by show 2 * 0 + _ ≤ _; exact Nat.le_of_eq rfl) (hb hby at_123) (by decide) (by decide) (by decide) (by decide)
    have N10 := Fr.app N8 Nc10
    have s_E_10 := C9.keep Kc10
    refine own_go st10 ?_
    have I2b := I2a.keep Kc10 (ninS ne_a1_a9 nin0) (ninS ne_ff_a9 nin0) (ninS ne_ll_a9 nin0) (ninS ne_kk_a9 nin0)
    have ex2 := I2b.1.1
    obtain ⟨_, T11, L11, X11, ⟨rfl, Nc11, Kc11, I11⟩, st11⟩ := own_callV X10 hx hZ hown (argsL := [(.long (20 : Int64)), (.ref a9)]) (rest := []) (own_add2_con l Z a0 hw a1 ff ll kk (((List.replicate 8 (.long 0)).set 0 (.long (0 : Int64))).set 1 (.long (10 : Int64))) (((List.replicate 8 (.long 0)).set 0 (.long (l1 - (0 : Int64)))).set 1 (.long (((10 : Int64) + l2) - (10 : Int64)))) (((List.replicate 8 (.int 0)).set 0 (.int m1)).set 1 (.int m2)) a9 (20 : Int64) ((20 : Int64) + l3) (0 : Int64) (10 : Int64) m3 h0.size T10.heap I2b (by simp) (by simp) (by simp) S10 (by simp) (by decide) (by simp) (by decide) ((10 : Int64) + l2 - 10) (by simp) (by rw [own_sc, own_sc]; exact t2) ga gf gl gk []) rfl ex2 (hw _ (List.mem_of_getElem? (i := 33) rfl)) (hw _ (List.mem_of_getElem? (i := 34) rfl)) (hw _ (List.mem_of_getElem? (i := 36) rfl)) (hw _ (List.mem_of_getElem? (i := 35) rfl)) (hw _ (List.mem_of_getElem? (i := 2) rfl)) (hw _ (List.mem_of_getElem? (i := 37) rfl)) (notFace_of_selects (args := #[]) (mvT hZ (hw _ (List.mem_of_getElem? (i := 36) rfl)))) (by decide) (by decide +kernel : parseMethodDescriptor "(JLtidemark/model/Stamp;)V" = some ⟨[.long, (.object "tidemark/model/Stamp")], none⟩) rfl (g := (mkF m 126 #[.val (.int x0), .val (.int x1), .val (.int x2), .val (.int x3), .val (.long l1), .second, .val (.long l2), .second, .val (.long l3), .second, .val (.int m1), .val (.int m2), .val (.int m3), .val (.int d), .val (.ref a1), .unset, .unset, .unset, .unset, .unset, .unset, .unset, .unset, .unset, .unset, .unset, .unset, .unset, .unset, .unset, .unset] [(.ref a9), (.long (20 : Int64)), (.ref a1)])) rfl (by rw [hml]; rfl) rfl 0 (by show 2 * 0 + _ ≤ _; exact Nat.le_of_eq rfl) (hb hby at_126) (by decide) (by decide) (by decide) (by decide)
    have N11 := Fr.app N10 Nc11
    have o_E_11 := ex2.keep Kc11
    refine own_go st11 ?_
    have en3 := en2.set 2 rfl (by simp) (by simp) (by simp) ((20 : Int64), ((20 : Int64) + l3) - (20 : Int64), m3)
    refine own_go (fun _ => XS.aload X11.here hx rfl (hb hby at_129) rfl rfl) ?_
    refine own_go (fun _ => XS.iload X11.here hx rfl (hb hby at_131) rfl) ?_
    have exf := I11.1.1
    obtain ⟨_, T12, L12, X12, ⟨rfl, Nc12, Kc12, J12⟩, st12⟩ := own_callV X11 hx hZ hown (argsL := [(.int d)]) (rest := []) (own_forget_con l Z a0 hw a1 ff ll kk ((((List.replicate 8 (.long 0)).set 0 (.long (0 : Int64))).set 1 (.long (10 : Int64))).set 2 (.long (20 : Int64))) ((((List.replicate 8 (.long 0)).set 0 (.long (l1 - (0 : Int64)))).set 1 (.long (((10 : Int64) + l2) - (10 : Int64)))).set 2 (.long (((20 : Int64) + l3) - (20 : Int64)))) ((((List.replicate 8 (.int 0)).set 0 (.int m1)).set 1 (.int m2)).set 2 (.int m3)) 0 10 20 (l1 - 0) ((10 : Int64) + l2 - 10) ((20 : Int64) + l3 - 20) m1 m2 m3 d h0.size T11.heap I11 en3 (by simp) (by simp) (by simp) ga gf gl gk []) rfl exf (hw _ (List.mem_of_getElem? (i := 70) rfl)) (hw _ (List.mem_of_getElem? (i := 71) rfl)) (hw _ (List.mem_of_getElem? (i := 73) rfl)) (hw _ (List.mem_of_getElem? (i := 72) rfl)) (hw _ (List.mem_of_getElem? (i := 2) rfl)) (hw _ (List.mem_of_getElem? (i := 74) rfl)) (notFace_of_selects (args := #[]) (mvT hZ (hw _ (List.mem_of_getElem? (i := 73) rfl)))) (by decide) (by decide +kernel : parseMethodDescriptor "(I)V" = some ⟨[.int], none⟩) rfl (g := (mkF m 133 #[.val (.int x0), .val (.int x1), .val (.int x2), .val (.int x3), .val (.long l1), .second, .val (.long l2), .second, .val (.long l3), .second, .val (.int m1), .val (.int m2), .val (.int m3), .val (.int d), .val (.ref a1), .unset, .unset, .unset, .unset, .unset, .unset, .unset, .unset, .unset, .unset, .unset, .unset, .unset, .unset, .unset, .unset] [(.int d), (.ref a1)])) rfl (by rw [hml]; rfl) rfl 0 (by show 2 * 0 + _ ≤ _; exact Nat.le_of_eq rfl) (hb hby at_133) (by decide) (by decide) (by decide) (by decide)
    have N12 := Fr.app N11 Nc12
    have o_E_12 := exf.keep Kc12
    refine own_go st12 ?_
    rw [own_s0, own_sc, own_sc] at J12
    obtain ⟨EE, hEE⟩ : ∃ z, z = own_keep d [((0 : Int64), l1, m1), ((10 : Int64), l2, m2), ((20 : Int64), l3, m3)] := ⟨_, rfl⟩
    rw [← hEE] at J12
    have hEm : ∀ e ∈ EE, e ∈ ([((0 : Int64), l1, m1), ((10 : Int64), l2, m2), ((20 : Int64), l3, m3)] : List (Int64 × Int64 × Int32)) := fun e he => by rw [hEE] at he; exact (List.mem_filter.mp he).1
    have hEl : EE.length ≤ 3 := by rw [hEE]; exact List.length_filter_le _ _
    have hEp : ∀ q : Int64, 0 ≤ q.toInt ∧ q.toInt ≤ 20 → ∀ e ∈ EE, (-9223372036854775808 : Int64) < q + e.2.1 := fun q hq e he => by
      have := hEm e he
      simp only [List.mem_cons, List.not_mem_nil, or_false] at this
      rcases this with rfl | rfl | rfl
      · exact v1.gt q hq
      · exact v2.gt q hq
      · exact v3.gt q hq
    obtain ⟨c0, c1, c2, c3⟩ := J12.lts
    obtain ⟨T13, h13, X13, e13, E13, C13, D13, -, st13⟩ := newO X12 hx hZ hown (hw _ (List.mem_of_getElem? (i := 17) rfl)) (hw _ (List.mem_of_getElem? (i := 18) rfl)) (hw _ (List.mem_of_getElem? (i := 19) rfl)) rfl (g := (mkF m 136 #[.val (.int x0), .val (.int x1), .val (.int x2), .val (.int x3), .val (.long l1), .second, .val (.long l2), .second, .val (.long l3), .second, .val (.int m1), .val (.int m2), .val (.int m3), .val (.int d), .val (.ref a1), .unset, .unset, .unset, .unset, .unset, .unset, .unset, .unset, .unset, .unset, .unset, .unset, .unset, .unset, .unset, .unset] [])) rfl (hb hby at_136) (by decide) (by decide)
    obtain ⟨a13, q13⟩ : ∃ z, z = T12.heap.size := ⟨_, rfl⟩
    rw [← q13] at C13 D13 st13
    have s_counter_13 := D13 (Or.inr (hw _ (List.mem_of_getElem? (i := 30) rfl))) (ty := .long) (by decide)
    have s_member_13 := D13 (Or.inr (hw _ (List.mem_of_getElem? (i := 32) rfl))) (ty := .int) (by decide)
    refine own_go st13 ?_
    show own_Go p e below _ (T13.setTop (mkF m 139 #[.val (.int x0), .val (.int x1), .val (.int x2), .val (.int x3), .val (.long l1), .second, .val (.long l2), .second, .val (.long l3), .second, .val (.int m1), .val (.int m2), .val (.int m3), .val (.int d), .val (.ref a1), .unset, .unset, .unset, .unset, .unset, .unset, .unset, .unset, .unset, .unset, .unset, .unset, .unset, .unset, .unset, .unset] [(.ref a13)]))
    have Ja := J12.ext E13
    have glo : h0.size ≤ a13 := by rw [q13]; exact Nat.le_trans ga (Nat.le_of_lt c0)
    have ne_a1_a13 : a1 ≠ a13 := by rw [q13]; exact Nat.ne_of_lt c0
    have ne_ff_a13 : ff ≠ a13 := by rw [q13]; exact Nat.ne_of_lt c1
    have ne_ll_a13 : ll ≠ a13 := by rw [q13]; exact Nat.ne_of_lt c2
    have ne_kk_a13 : kk ≠ a13 := by rw [q13]; exact Nat.ne_of_lt c3
    refine own_go (fun _ => XS.dup X13.here hx rfl (hb hby at_139) rfl rfl) ?_
    refine own_go (X13.ldc2Long hx hown (mvT hZ (hw _ (List.mem_of_getElem? (i := 75) rfl))) (g := (mkF m 140 #[.val (.int x0), .val (.int x1), .val (.int x2), .val (.int x3), .val (.long l1), .second, .val (.long l2), .second, .val (.long l3), .second, .val (.int m1), .val (.int m2), .val (.int m3), .val (.int d), .val (.ref a1), .unset, .unset, .unset, .unset, .unset, .unset, .unset, .unset, .unset, .unset, .unset, .unset, .unset, .unset, .unset, .unset] [(.ref a13), (.ref a13)])) rfl (hb hby at_140)) ?_
    refine own_go (fun _ => XS.iconst X13.here hx rfl (hb hby at_143)) ?_
    obtain ⟨_, T14, L14, X14, ⟨rfl, Nc14, Kc14, Slo⟩, st14⟩ := own_callI X13 hx hZ hown rfl (argsL := [(.long (-9223372036854775808 : Int64)), (.int (0 : Int32))]) (rest := [(.ref a13)]) (own_stampI_con l Z a0 hw a13 (-9223372036854775808 : Int64) 0 h0.size h13 C13 s_counter_13 s_member_13 glo []) e13 (hw _ (List.mem_of_getElem? (i := 20) rfl)) (hw _ (List.mem_of_getElem? (i := 21) rfl)) (hw _ (List.mem_of_getElem? (i := 19) rfl)) (hw _ (List.mem_of_getElem? (i := 22) rfl)) (by decide) (by decide +kernel : parseMethodDescriptor "(JI)V" = some ⟨[.long, .int], none⟩) rfl (g := (mkF m 144 #[.val (.int x0), .val (.int x1), .val (.int x2), .val (.int x3), .val (.long l1), .second, .val (.long l2), .second, .val (.long l3), .second, .val (.int m1), .val (.int m2), .val (.int m3), .val (.int d), .val (.ref a1), .unset, .unset, .unset, .unset, .unset, .unset, .unset, .unset, .unset, .unset, .unset, .unset, .unset, .unset, .unset, .unset] [(.int (0 : Int32)), (.long (-9223372036854775808 : Int64)), (.ref a13), (.ref a13)])) rfl (by rw [hml]; rfl) rfl 1 (by show 2 * 0 + _ ≤ _; exact Nat.le_of_eq rfl) (hb hby at_144) (by decide) (by decide) (by decide) (by decide)
    have N14 := Fr.app N12 Nc14
    have s_E_14 := C13.keep Kc14
    refine own_go st14 ?_
    have Jb := Ja.keep Kc14 (ninS ne_a1_a13 nin0) (ninS ne_ff_a13 nin0) (ninS ne_ll_a13 nin0) (ninS ne_kk_a13 nin0)
    refine own_go (fun _ => XS.astore X14.here hx rfl (hb hby at_147) rfl rfl (l' := #[.val (.int x0), .val (.int x1), .val (.int x2), .val (.int x3), .val (.long l1), .second, .val (.long l2), .second, .val (.long l3), .second, .val (.int m1), .val (.int m2), .val (.int m3), .val (.int d), .val (.ref a1), .val (.ref a13), .unset, .unset, .unset, .unset, .unset, .unset, .unset, .unset, .unset, .unset, .unset, .unset, .unset, .unset, .unset]) rfl) ?_
    have G322 : ∀ (k1 k2 k3 : Int32) (e0c : Int64) (e0m : Int32) (e1c : Int64) (e1m : Int32) (e2c : Int64) (e2m : Int32) (z0 : own_ans EE 0 = (e0c, e0m)) (z1 : own_ans EE 10 = (e1c, e1m)) (z2 : own_ans EE 20 = (e2c, e2m)), own_Go p e below (own_Out s (own_Q1 h0.size) room_1.cells room_1.slots) (T14.setTop (mkF m 322 #[.val (.int x0), .val (.int x1), .val (.int x2), .val (.int x3), .val (.long l1), .second, .val (.long l2), .second, .val (.long l3), .second, .val (.int m1), .val (.int m2), .val (.int m3), .val (.int d), .val (.ref a1), .val (.ref a13), .val (.int k1), .val (.int k2), .val (.int k3), .val (.long e0c), .second, .val (.int e0m), .val (.long e1c), .second, .val (.int e1m), .val (.long e2c), .second, .val (.int e2m), .unset, .unset, .unset] [])) := by
      intro k1 k2 k3 e0c e0m e1c e1m e2c e2m z0 z1 z2
      show own_Go p e below _ (T14.setTop (mkF m 322 #[.val (.int x0), .val (.int x1), .val (.int x2), .val (.int x3), .val (.long l1), .second, .val (.long l2), .second, .val (.long l3), .second, .val (.int m1), .val (.int m2), .val (.int m3), .val (.int d), .val (.ref a1), .val (.ref a13), .val (.int k1), .val (.int k2), .val (.int k3), .val (.long e0c), .second, .val (.int e0m), .val (.long e1c), .second, .val (.int e1m), .val (.long e2c), .second, .val (.int e2m), .unset, .unset, .unset] []))
      refine own_go (fun _ => XS.aload X14.here hx rfl (hb hby at_322) rfl rfl) ?_
      refine own_go (fun _ => XT.lconst X14.here hx rfl (hb hby at_324)) ?_
      refine own_go (fun _ => XS.aload X14.here hx rfl (hb hby at_325) rfl rfl) ?_
      have gg0 : h0.size ≤ T14.heap.size := Nat.le_trans ga (Nat.le_of_lt Jb.lts.1)
      obtain ⟨_, _, _, ⟨⟨ey0, _⟩, _⟩, _⟩ := id Jb
      obtain ⟨_, T15, L15, X15, ⟨r15, rfl, Nc15, Kc15, A15⟩, st15⟩ := own_callV X14 hx hZ hown (argsL := [(.long (0 : Int64)), (.ref a13)]) (rest := []) (own_stamp_con l Z a0 hw a1 ff ll kk a13 (0 : Int64) EE h0.size T14.heap hEl Jb Slo (hEp _ (by decide)) gg0 []) rfl ey0 (hw _ (List.mem_of_getElem? (i := 76) rfl)) (hw _ (List.mem_of_getElem? (i := 77) rfl)) (hw _ (List.mem_of_getElem? (i := 79) rfl)) (hw _ (List.mem_of_getElem? (i := 78) rfl)) (hw _ (List.mem_of_getElem? (i := 2) rfl)) (hw _ (List.mem_of_getElem? (i := 80) rfl)) (notFace_of_selects (args := #[]) (mvT hZ (hw _ (List.mem_of_getElem? (i := 79) rfl)))) (by decide) (by decide +kernel : parseMethodDescriptor "(JLtidemark/model/Stamp;)Ltidemark/model/Stamp;" = some ⟨[.long, (.object "tidemark/model/Stamp")], (some (.object "tidemark/model/Stamp"))⟩) rfl (g := (mkF m 327 #[.val (.int x0), .val (.int x1), .val (.int x2), .val (.int x3), .val (.long l1), .second, .val (.long l2), .second, .val (.long l3), .second, .val (.int m1), .val (.int m2), .val (.int m3), .val (.int d), .val (.ref a1), .val (.ref a13), .val (.int k1), .val (.int k2), .val (.int k3), .val (.long e0c), .second, .val (.int e0m), .val (.long e1c), .second, .val (.int e1m), .val (.long e2c), .second, .val (.int e2m), .unset, .unset, .unset] [(.ref a13), (.long (0 : Int64)), (.ref a1)])) rfl (by rw [hml]; rfl) rfl 0 (by show 2 * 0 + _ ≤ _; exact Nat.le_of_eq rfl) (hb hby at_327) (by decide) (by decide) (by decide) (by decide)
      have N15 := Fr.app N14 Nc15
      have o_E_15 := ey0.keep Kc15
      refine own_go st15 ?_
      rw [z0] at A15
      have J0x := Jb.keep Kc15 nin0 nin0 nin0 nin0
      have S0x := Slo.keep Kc15 nin0
      refine own_go (fun _ => XT.lload X15.here hx rfl (hb hby at_330) rfl) ?_
      refine own_go (fun _ => XS.iload X15.here hx rfl (hb hby at_332) rfl) ?_
      show own_Go p e below _ (T15.setTop (mkF m 334 #[.val (.int x0), .val (.int x1), .val (.int x2), .val (.int x3), .val (.long l1), .second, .val (.long l2), .second, .val (.long l3), .second, .val (.int m1), .val (.int m2), .val (.int m3), .val (.int d), .val (.ref a1), .val (.ref a13), .val (.int k1), .val (.int k2), .val (.int k3), .val (.long e0c), .second, .val (.int e0m), .val (.long e1c), .second, .val (.int e1m), .val (.long e2c), .second, .val (.int e2m), .unset, .unset, .unset] [(.int e0m), (.long e0c), (.ref r15)]))
      obtain ⟨_, T16, L16, X16, ⟨rfl, eh16, rfl⟩, st16⟩ := own_callS X15 hx hZ hown (argsL := [(.ref r15), (.long e0c), (.int e0m)]) (rest := []) (own_same_con l Z a0 hw r15 e0c e0m T15.heap A15 []) rfl (hw _ (List.mem_of_getElem? (i := 94) rfl)) (hw _ (List.mem_of_getElem? (i := 95) rfl)) (hw _ (List.mem_of_getElem? (i := 96) rfl)) (hw _ (List.mem_of_getElem? (i := 97) rfl)) (by decide) (by decide +kernel : parseMethodDescriptor "(Ltidemark/model/Stamp;JI)Z" = some ⟨[(.object "tidemark/model/Stamp"), .long, .int], some .boolean⟩) rfl (g := (mkF m 334 #[.val (.int x0), .val (.int x1), .val (.int x2), .val (.int x3), .val (.long l1), .second, .val (.long l2), .second, .val (.long l3), .second, .val (.int m1), .val (.int m2), .val (.int m3), .val (.int d), .val (.ref a1), .val (.ref a13), .val (.int k1), .val (.int k2), .val (.int k3), .val (.long e0c), .second, .val (.int e0m), .val (.long e1c), .second, .val (.int e1m), .val (.long e2c), .second, .val (.int e2m), .unset, .unset, .unset] [(.int e0m), (.long e0c), (.ref r15)])) rfl (by rw [hml]; rfl) rfl 0 (by show 2 * 0 + _ ≤ _; exact Nat.le_of_eq rfl) (hb hby at_334) (by decide) (by decide) (by decide) (by decide)
      rw [List.append_nil] at X16
      refine own_go st16 ?_
      refine own_go (fun _ => XS.istore X16.here hx rfl (hb hby at_337) rfl (l' := #[.val (.int x0), .val (.int x1), .val (.int x2), .val (.int x3), .val (.long l1), .second, .val (.long l2), .second, .val (.long l3), .second, .val (.int m1), .val (.int m2), .val (.int m3), .val (.int d), .val (.ref a1), .val (.ref a13), .val (.int k1), .val (.int k2), .val (.int k3), .val (.long e0c), .second, .val (.int e0m), .val (.long e1c), .second, .val (.int e1m), .val (.long e2c), .second, .val (.int e2m), .val (.int (1 : Int32)), .unset, .unset]) rfl) ?_
      refine own_go (fun _ => XS.aload X16.here hx rfl (hb hby at_339) rfl rfl) ?_
      refine own_go (X16.ldc2Long hx hown (mvT hZ (hw _ (List.mem_of_getElem? (i := 60) rfl))) (g := (mkF m 341 #[.val (.int x0), .val (.int x1), .val (.int x2), .val (.int x3), .val (.long l1), .second, .val (.long l2), .second, .val (.long l3), .second, .val (.int m1), .val (.int m2), .val (.int m3), .val (.int d), .val (.ref a1), .val (.ref a13), .val (.int k1), .val (.int k2), .val (.int k3), .val (.long e0c), .second, .val (.int e0m), .val (.long e1c), .second, .val (.int e1m), .val (.long e2c), .second, .val (.int e2m), .val (.int (1 : Int32)), .unset, .unset] [(.ref a1)])) rfl (hb hby at_341)) ?_
      refine own_go (fun _ => XS.aload X16.here hx rfl (hb hby at_344) rfl rfl) ?_
      have gg1 : h0.size ≤ T15.heap.size := Nat.le_trans ga (Nat.le_of_lt J0x.lts.1)
      obtain ⟨_, _, _, ⟨⟨ey1, _⟩, _⟩, _⟩ := id J0x
      obtain ⟨_, T17, L17, X17, ⟨r17, rfl, Nc17, Kc17, A17⟩, st17⟩ := own_callV X16 hx hZ hown (argsL := [(.long (10 : Int64)), (.ref a13)]) (rest := []) (own_stamp_con l Z a0 hw a1 ff ll kk a13 (10 : Int64) EE h0.size T15.heap hEl J0x S0x (hEp _ (by decide)) gg1 []) eh16 ey1 (hw _ (List.mem_of_getElem? (i := 76) rfl)) (hw _ (List.mem_of_getElem? (i := 77) rfl)) (hw _ (List.mem_of_getElem? (i := 79) rfl)) (hw _ (List.mem_of_getElem? (i := 78) rfl)) (hw _ (List.mem_of_getElem? (i := 2) rfl)) (hw _ (List.mem_of_getElem? (i := 80) rfl)) (notFace_of_selects (args := #[]) (mvT hZ (hw _ (List.mem_of_getElem? (i := 79) rfl)))) (by decide) (by decide +kernel : parseMethodDescriptor "(JLtidemark/model/Stamp;)Ltidemark/model/Stamp;" = some ⟨[.long, (.object "tidemark/model/Stamp")], (some (.object "tidemark/model/Stamp"))⟩) rfl (g := (mkF m 346 #[.val (.int x0), .val (.int x1), .val (.int x2), .val (.int x3), .val (.long l1), .second, .val (.long l2), .second, .val (.long l3), .second, .val (.int m1), .val (.int m2), .val (.int m3), .val (.int d), .val (.ref a1), .val (.ref a13), .val (.int k1), .val (.int k2), .val (.int k3), .val (.long e0c), .second, .val (.int e0m), .val (.long e1c), .second, .val (.int e1m), .val (.long e2c), .second, .val (.int e2m), .val (.int (1 : Int32)), .unset, .unset] [(.ref a13), (.long (10 : Int64)), (.ref a1)])) rfl (by rw [hml]; rfl) rfl 0 (by show 2 * 0 + _ ≤ _; exact Nat.le_of_eq rfl) (hb hby at_346) (by decide) (by decide) (by decide) (by decide)
      have N17 := Fr.app N15 Nc17
      have o_E_17 := ey1.keep Kc17
      refine own_go st17 ?_
      show own_Go p e below _ (T17.setTop (mkF m 349 #[.val (.int x0), .val (.int x1), .val (.int x2), .val (.int x3), .val (.long l1), .second, .val (.long l2), .second, .val (.long l3), .second, .val (.int m1), .val (.int m2), .val (.int m3), .val (.int d), .val (.ref a1), .val (.ref a13), .val (.int k1), .val (.int k2), .val (.int k3), .val (.long e0c), .second, .val (.int e0m), .val (.long e1c), .second, .val (.int e1m), .val (.long e2c), .second, .val (.int e2m), .val (.int (1 : Int32)), .unset, .unset] [(.ref r17)]))
      rw [z1] at A17
      have J1x := J0x.keep Kc17 nin0 nin0 nin0 nin0
      have S1x := S0x.keep Kc17 nin0
      refine own_go (fun _ => XT.lload X17.here hx rfl (hb hby at_349) rfl) ?_
      refine own_go (fun _ => XS.iload X17.here hx rfl (hb hby at_351) rfl) ?_
      obtain ⟨_, T18, L18, X18, ⟨rfl, eh18, rfl⟩, st18⟩ := own_callS X17 hx hZ hown (argsL := [(.ref r17), (.long e1c), (.int e1m)]) (rest := []) (own_same_con l Z a0 hw r17 e1c e1m T17.heap A17 []) rfl (hw _ (List.mem_of_getElem? (i := 94) rfl)) (hw _ (List.mem_of_getElem? (i := 95) rfl)) (hw _ (List.mem_of_getElem? (i := 96) rfl)) (hw _ (List.mem_of_getElem? (i := 97) rfl)) (by decide) (by decide +kernel : parseMethodDescriptor "(Ltidemark/model/Stamp;JI)Z" = some ⟨[(.object "tidemark/model/Stamp"), .long, .int], some .boolean⟩) rfl (g := (mkF m 353 #[.val (.int x0), .val (.int x1), .val (.int x2), .val (.int x3), .val (.long l1), .second, .val (.long l2), .second, .val (.long l3), .second, .val (.int m1), .val (.int m2), .val (.int m3), .val (.int d), .val (.ref a1), .val (.ref a13), .val (.int k1), .val (.int k2), .val (.int k3), .val (.long e0c), .second, .val (.int e0m), .val (.long e1c), .second, .val (.int e1m), .val (.long e2c), .second, .val (.int e2m), .val (.int (1 : Int32)), .unset, .unset] [(.int e1m), (.long e1c), (.ref r17)])) rfl (by rw [hml]; rfl) rfl 0 (by show 2 * 0 + _ ≤ _; exact Nat.le_of_eq rfl) (hb hby at_353) (by decide) (by decide) (by decide) (by decide)
      rw [List.append_nil] at X18
      refine own_go st18 ?_
      refine own_go (fun _ => XS.istore X18.here hx rfl (hb hby at_356) rfl (l' := #[.val (.int x0), .val (.int x1), .val (.int x2), .val (.int x3), .val (.long l1), .second, .val (.long l2), .second, .val (.long l3), .second, .val (.int m1), .val (.int m2), .val (.int m3), .val (.int d), .val (.ref a1), .val (.ref a13), .val (.int k1), .val (.int k2), .val (.int k3), .val (.long e0c), .second, .val (.int e0m), .val (.long e1c), .second, .val (.int e1m), .val (.long e2c), .second, .val (.int e2m), .val (.int (1 : Int32)), .val (.int (1 : Int32)), .unset]) rfl) ?_
      refine own_go (fun _ => XS.aload X18.here hx rfl (hb hby at_358) rfl rfl) ?_
      refine own_go (X18.ldc2Long hx hown (mvT hZ (hw _ (List.mem_of_getElem? (i := 69) rfl))) (g := (mkF m 360 #[.val (.int x0), .val (.int x1), .val (.int x2), .val (.int x3), .val (.long l1), .second, .val (.long l2), .second, .val (.long l3), .second, .val (.int m1), .val (.int m2), .val (.int m3), .val (.int d), .val (.ref a1), .val (.ref a13), .val (.int k1), .val (.int k2), .val (.int k3), .val (.long e0c), .second, .val (.int e0m), .val (.long e1c), .second, .val (.int e1m), .val (.long e2c), .second, .val (.int e2m), .val (.int (1 : Int32)), .val (.int (1 : Int32)), .unset] [(.ref a1)])) rfl (hb hby at_360)) ?_
      show own_Go p e below _ (T18.setTop (mkF m 363 #[.val (.int x0), .val (.int x1), .val (.int x2), .val (.int x3), .val (.long l1), .second, .val (.long l2), .second, .val (.long l3), .second, .val (.int m1), .val (.int m2), .val (.int m3), .val (.int d), .val (.ref a1), .val (.ref a13), .val (.int k1), .val (.int k2), .val (.int k3), .val (.long e0c), .second, .val (.int e0m), .val (.long e1c), .second, .val (.int e1m), .val (.long e2c), .second, .val (.int e2m), .val (.int (1 : Int32)), .val (.int (1 : Int32)), .unset] [(.long (20 : Int64)), (.ref a1)]))
      refine own_go (fun _ => XS.aload X18.here hx rfl (hb hby at_363) rfl rfl) ?_
      have gg2 : h0.size ≤ T17.heap.size := Nat.le_trans ga (Nat.le_of_lt J1x.lts.1)
      obtain ⟨_, _, _, ⟨⟨ey2, _⟩, _⟩, _⟩ := id J1x
      obtain ⟨_, T19, L19, X19, ⟨r19, rfl, Nc19, Kc19, A19⟩, st19⟩ := own_callV X18 hx hZ hown (argsL := [(.long (20 : Int64)), (.ref a13)]) (rest := []) (own_stamp_con l Z a0 hw a1 ff ll kk a13 (20 : Int64) EE h0.size T17.heap hEl J1x S1x (hEp _ (by decide)) gg2 []) eh18 ey2 (hw _ (List.mem_of_getElem? (i := 76) rfl)) (hw _ (List.mem_of_getElem? (i := 77) rfl)) (hw _ (List.mem_of_getElem? (i := 79) rfl)) (hw _ (List.mem_of_getElem? (i := 78) rfl)) (hw _ (List.mem_of_getElem? (i := 2) rfl)) (hw _ (List.mem_of_getElem? (i := 80) rfl)) (notFace_of_selects (args := #[]) (mvT hZ (hw _ (List.mem_of_getElem? (i := 79) rfl)))) (by decide) (by decide +kernel : parseMethodDescriptor "(JLtidemark/model/Stamp;)Ltidemark/model/Stamp;" = some ⟨[.long, (.object "tidemark/model/Stamp")], (some (.object "tidemark/model/Stamp"))⟩) rfl (g := (mkF m 365 #[.val (.int x0), .val (.int x1), .val (.int x2), .val (.int x3), .val (.long l1), .second, .val (.long l2), .second, .val (.long l3), .second, .val (.int m1), .val (.int m2), .val (.int m3), .val (.int d), .val (.ref a1), .val (.ref a13), .val (.int k1), .val (.int k2), .val (.int k3), .val (.long e0c), .second, .val (.int e0m), .val (.long e1c), .second, .val (.int e1m), .val (.long e2c), .second, .val (.int e2m), .val (.int (1 : Int32)), .val (.int (1 : Int32)), .unset] [(.ref a13), (.long (20 : Int64)), (.ref a1)])) rfl (by rw [hml]; rfl) rfl 0 (by show 2 * 0 + _ ≤ _; exact Nat.le_of_eq rfl) (hb hby at_365) (by decide) (by decide) (by decide) (by decide)
      have N19 := Fr.app N17 Nc19
      have o_E_19 := ey2.keep Kc19
      refine own_go st19 ?_
      rw [z2] at A19
      have J2x := J1x.keep Kc19 nin0 nin0 nin0 nin0
      have S2x := S1x.keep Kc19 nin0
      refine own_go (fun _ => XT.lload X19.here hx rfl (hb hby at_368) rfl) ?_
      refine own_go (fun _ => XS.iload X19.here hx rfl (hb hby at_370) rfl) ?_
      obtain ⟨_, T20, L20, X20, ⟨rfl, eh20, rfl⟩, st20⟩ := own_callS X19 hx hZ hown (argsL := [(.ref r19), (.long e2c), (.int e2m)]) (rest := []) (own_same_con l Z a0 hw r19 e2c e2m T19.heap A19 []) rfl (hw _ (List.mem_of_getElem? (i := 94) rfl)) (hw _ (List.mem_of_getElem? (i := 95) rfl)) (hw _ (List.mem_of_getElem? (i := 96) rfl)) (hw _ (List.mem_of_getElem? (i := 97) rfl)) (by decide) (by decide +kernel : parseMethodDescriptor "(Ltidemark/model/Stamp;JI)Z" = some ⟨[(.object "tidemark/model/Stamp"), .long, .int], some .boolean⟩) rfl (g := (mkF m 372 #[.val (.int x0), .val (.int x1), .val (.int x2), .val (.int x3), .val (.long l1), .second, .val (.long l2), .second, .val (.long l3), .second, .val (.int m1), .val (.int m2), .val (.int m3), .val (.int d), .val (.ref a1), .val (.ref a13), .val (.int k1), .val (.int k2), .val (.int k3), .val (.long e0c), .second, .val (.int e0m), .val (.long e1c), .second, .val (.int e1m), .val (.long e2c), .second, .val (.int e2m), .val (.int (1 : Int32)), .val (.int (1 : Int32)), .unset] [(.int e2m), (.long e2c), (.ref r19)])) rfl (by rw [hml]; rfl) rfl 0 (by show 2 * 0 + _ ≤ _; exact Nat.le_of_eq rfl) (hb hby at_372) (by decide) (by decide) (by decide) (by decide)
      rw [List.append_nil] at X20
      refine own_go st20 ?_
      refine own_go (fun _ => XS.istore X20.here hx rfl (hb hby at_375) rfl (l' := #[.val (.int x0), .val (.int x1), .val (.int x2), .val (.int x3), .val (.long l1), .second, .val (.long l2), .second, .val (.long l3), .second, .val (.int m1), .val (.int m2), .val (.int m3), .val (.int d), .val (.ref a1), .val (.ref a13), .val (.int k1), .val (.int k2), .val (.int k3), .val (.long e0c), .second, .val (.int e0m), .val (.long e1c), .second, .val (.int e1m), .val (.long e2c), .second, .val (.int e2m), .val (.int (1 : Int32)), .val (.int (1 : Int32)), .val (.int (1 : Int32))]) rfl) ?_
      show own_Go p e below _ (T20.setTop (mkF m 377 #[.val (.int x0), .val (.int x1), .val (.int x2), .val (.int x3), .val (.long l1), .second, .val (.long l2), .second, .val (.long l3), .second, .val (.int m1), .val (.int m2), .val (.int m3), .val (.int d), .val (.ref a1), .val (.ref a13), .val (.int k1), .val (.int k2), .val (.int k3), .val (.long e0c), .second, .val (.int e0m), .val (.long e1c), .second, .val (.int e1m), .val (.long e2c), .second, .val (.int e2m), .val (.int (1 : Int32)), .val (.int (1 : Int32)), .val (.int (1 : Int32))] []))
      refine own_go (fun _ => XS.iload X20.here hx rfl (hb hby at_377) rfl) ?_
      refine own_go (fun _ => XS.ifNo X20.here hx rfl (hb hby at_379) rfl (XT.i0_eq_f (by decide))) ?_
      refine own_go (fun _ => XS.iload X20.here hx rfl (hb hby at_382) rfl) ?_
      refine own_go (fun _ => XS.ifNo X20.here hx rfl (hb hby at_384) rfl (XT.i0_eq_f (by decide))) ?_
      refine own_go (fun _ => XS.iload X20.here hx rfl (hb hby at_387) rfl) ?_
      refine own_go (fun _ => XS.ifNo X20.here hx rfl (hb hby at_389) rfl (XT.i0_eq_f (by decide))) ?_
      show own_Go p e below _ (T20.setTop (mkF m 392 #[.val (.int x0), .val (.int x1), .val (.int x2), .val (.int x3), .val (.long l1), .second, .val (.long l2), .second, .val (.long l3), .second, .val (.int m1), .val (.int m2), .val (.int m3), .val (.int d), .val (.ref a1), .val (.ref a13), .val (.int k1), .val (.int k2), .val (.int k3), .val (.long e0c), .second, .val (.int e0m), .val (.long e1c), .second, .val (.int e1m), .val (.long e2c), .second, .val (.int e2m), .val (.int (1 : Int32)), .val (.int (1 : Int32)), .val (.int (1 : Int32))] []))
      refine own_go (fun _ => XS.iconst X20.here hx rfl (hb hby at_392)) ?_
      refine own_go (fun _ => XS.goto X20.here hx rfl (pc0 := 393) (pc' := 397) rfl (hb hby at_393) (by decide) (by decide)) ?_
      exact own_iret X20 hx hlk hret (Or.inr (Or.inl rfl)) rfl (hb hby at_397) (by decide) (by decide) ⟨rfl, N19⟩
    show own_Go p e below _ (T14.setTop (mkF m 149 #[.val (.int x0), .val (.int x1), .val (.int x2), .val (.int x3), .val (.long l1), .second, .val (.long l2), .second, .val (.long l3), .second, .val (.int m1), .val (.int m2), .val (.int m3), .val (.int d), .val (.ref a1), .val (.ref a13), .unset, .unset, .unset, .unset, .unset, .unset, .unset, .unset, .unset, .unset, .unset, .unset, .unset, .unset, .unset] []))
    refine own_go (fun _ => XS.iload X14.here hx rfl (hb hby at_149) rfl) ?_
    refine own_go (fun _ => XS.iload X14.here hx rfl (hb hby at_151) rfl) ?_
    by_cases hm0 : m1 = d
    · skip
      refine own_go (fun _ => XS.icmpYes X14.here hx rfl (pc0 := 153) (pc' := 160) rfl (hb hby at_153) rfl (XT.ii_eq_t hm0) (by decide) (by decide)) ?_
      refine own_go (fun _ => XS.iconst X14.here hx rfl (hb hby at_160)) ?_
      refine own_go (fun _ => XS.istore X14.here hx rfl (hb hby at_161) rfl (l' := #[.val (.int x0), .val (.int x1), .val (.int x2), .val (.int x3), .val (.long l1), .second, .val (.long l2), .second, .val (.long l3), .second, .val (.int m1), .val (.int m2), .val (.int m3), .val (.int d), .val (.ref a1), .val (.ref a13), .val (.int (0 : Int32)), .unset, .unset, .unset, .unset, .unset, .unset, .unset, .unset, .unset, .unset, .unset, .unset, .unset, .unset]) rfl) ?_
      refine own_go (fun _ => XS.iload X14.here hx rfl (hb hby at_163) rfl) ?_
      show own_Go p e below _ (T14.setTop (mkF m 165 #[.val (.int x0), .val (.int x1), .val (.int x2), .val (.int x3), .val (.long l1), .second, .val (.long l2), .second, .val (.long l3), .second, .val (.int m1), .val (.int m2), .val (.int m3), .val (.int d), .val (.ref a1), .val (.ref a13), .val (.int (0 : Int32)), .unset, .unset, .unset, .unset, .unset, .unset, .unset, .unset, .unset, .unset, .unset, .unset, .unset, .unset] [(.int m2)]))
      refine own_go (fun _ => XS.iload X14.here hx rfl (hb hby at_165) rfl) ?_
      by_cases hm1 : m2 = d
      · skip
        refine own_go (fun _ => XS.icmpYes X14.here hx rfl (pc0 := 167) (pc' := 174) rfl (hb hby at_167) rfl (XT.ii_eq_t hm1) (by decide) (by decide)) ?_
        refine own_go (fun _ => XS.iconst X14.here hx rfl (hb hby at_174)) ?_
        refine own_go (fun _ => XS.istore X14.here hx rfl (hb hby at_175) rfl (l' := #[.val (.int x0), .val (.int x1), .val (.int x2), .val (.int x3), .val (.long l1), .second, .val (.long l2), .second, .val (.long l3), .second, .val (.int m1), .val (.int m2), .val (.int m3), .val (.int d), .val (.ref a1), .val (.ref a13), .val (.int (0 : Int32)), .val (.int (0 : Int32)), .unset, .unset, .unset, .unset, .unset, .unset, .unset, .unset, .unset, .unset, .unset, .unset, .unset]) rfl) ?_
        refine own_go (fun _ => XS.iload X14.here hx rfl (hb hby at_177) rfl) ?_
        refine own_go (fun _ => XS.iload X14.here hx rfl (hb hby at_179) rfl) ?_
        show own_Go p e below _ (T14.setTop (mkF m 181 #[.val (.int x0), .val (.int x1), .val (.int x2), .val (.int x3), .val (.long l1), .second, .val (.long l2), .second, .val (.long l3), .second, .val (.int m1), .val (.int m2), .val (.int m3), .val (.int d), .val (.ref a1), .val (.ref a13), .val (.int (0 : Int32)), .val (.int (0 : Int32)), .unset, .unset, .unset, .unset, .unset, .unset, .unset, .unset, .unset, .unset, .unset, .unset, .unset] [(.int d), (.int m3)]))
        by_cases hm2 : m3 = d
        · skip
          refine own_go (fun _ => XS.icmpYes X14.here hx rfl (pc0 := 181) (pc' := 188) rfl (hb hby at_181) rfl (XT.ii_eq_t hm2) (by decide) (by decide)) ?_
          refine own_go (fun _ => XS.iconst X14.here hx rfl (hb hby at_188)) ?_
          refine own_go (fun _ => XS.istore X14.here hx rfl (hb hby at_189) rfl (l' := #[.val (.int x0), .val (.int x1), .val (.int x2), .val (.int x3), .val (.long l1), .second, .val (.long l2), .second, .val (.long l3), .second, .val (.int m1), .val (.int m2), .val (.int m3), .val (.int d), .val (.ref a1), .val (.ref a13), .val (.int (0 : Int32)), .val (.int (0 : Int32)), .val (.int (0 : Int32)), .unset, .unset, .unset, .unset, .unset, .unset, .unset, .unset, .unset, .unset, .unset, .unset]) rfl) ?_
          refine own_go (X14.ldc2Long hx hown (mvT hZ (hw _ (List.mem_of_getElem? (i := 75) rfl))) (g := (mkF m 191 #[.val (.int x0), .val (.int x1), .val (.int x2), .val (.int x3), .val (.long l1), .second, .val (.long l2), .second, .val (.long l3), .second, .val (.int m1), .val (.int m2), .val (.int m3), .val (.int d), .val (.ref a1), .val (.ref a13), .val (.int (0 : Int32)), .val (.int (0 : Int32)), .val (.int (0 : Int32)), .unset, .unset, .unset, .unset, .unset, .unset, .unset, .unset, .unset, .unset, .unset, .unset] [])) rfl (hb hby at_191)) ?_
          refine own_go (fun _ => XT.lstore X14.here hx rfl (hb hby at_194) rfl (l' := #[.val (.int x0), .val (.int x1), .val (.int x2), .val (.int x3), .val (.long l1), .second, .val (.long l2), .second, .val (.long l3), .second, .val (.int m1), .val (.int m2), .val (.int m3), .val (.int d), .val (.ref a1), .val (.ref a13), .val (.int (0 : Int32)), .val (.int (0 : Int32)), .val (.int (0 : Int32)), .val (.long (-9223372036854775808 : Int64)), .second, .unset, .unset, .unset, .unset, .unset, .unset, .unset, .unset, .unset, .unset]) rfl) ?_
          refine own_go (fun _ => XS.iconst X14.here hx rfl (hb hby at_196)) ?_
          show own_Go p e below _ (T14.setTop (mkF m 197 #[.val (.int x0), .val (.int x1), .val (.int x2), .val (.int x3), .val (.long l1), .second, .val (.long l2), .second, .val (.long l3), .second, .val (.int m1), .val (.int m2), .val (.int m3), .val (.int d), .val (.ref a1), .val (.ref a13), .val (.int (0 : Int32)), .val (.int (0 : Int32)), .val (.int (0 : Int32)), .val (.long (-9223372036854775808 : Int64)), .second, .unset, .unset, .unset, .unset, .unset, .unset, .unset, .unset, .unset, .unset] [(.int (0 : Int32))]))
          refine own_go (fun _ => XS.istore X14.here hx rfl (hb hby at_197) rfl (l' := #[.val (.int x0), .val (.int x1), .val (.int x2), .val (.int x3), .val (.long l1), .second, .val (.long l2), .second, .val (.long l3), .second, .val (.int m1), .val (.int m2), .val (.int m3), .val (.int d), .val (.ref a1), .val (.ref a13), .val (.int (0 : Int32)), .val (.int (0 : Int32)), .val (.int (0 : Int32)), .val (.long (-9223372036854775808 : Int64)), .second, .val (.int (0 : Int32)), .unset, .unset, .unset, .unset, .unset, .unset, .unset, .unset, .unset]) rfl) ?_
          refine own_go (fun _ => XS.iload X14.here hx rfl (hb hby at_199) rfl) ?_
          refine own_go (fun _ => XS.ifYes X14.here hx rfl (pc0 := 201) (pc' := 212) rfl (hb hby at_201) rfl (XT.i0_eq_t (by decide)) (by decide) (by decide)) ?_
          refine own_go (X14.ldc2Long hx hown (mvT hZ (hw _ (List.mem_of_getElem? (i := 75) rfl))) (g := (mkF m 212 #[.val (.int x0), .val (.int x1), .val (.int x2), .val (.int x3), .val (.long l1), .second, .val (.long l2), .second, .val (.long l3), .second, .val (.int m1), .val (.int m2), .val (.int m3), .val (.int d), .val (.ref a1), .val (.ref a13), .val (.int (0 : Int32)), .val (.int (0 : Int32)), .val (.int (0 : Int32)), .val (.long (-9223372036854775808 : Int64)), .second, .val (.int (0 : Int32)), .unset, .unset, .unset, .unset, .unset, .unset, .unset, .unset, .unset] [])) rfl (hb hby at_212)) ?_
          refine own_go (fun _ => XT.lstore X14.here hx rfl (hb hby at_215) rfl (l' := #[.val (.int x0), .val (.int x1), .val (.int x2), .val (.int x3), .val (.long l1), .second, .val (.long l2), .second, .val (.long l3), .second, .val (.int m1), .val (.int m2), .val (.int m3), .val (.int d), .val (.ref a1), .val (.ref a13), .val (.int (0 : Int32)), .val (.int (0 : Int32)), .val (.int (0 : Int32)), .val (.long (-9223372036854775808 : Int64)), .second, .val (.int (0 : Int32)), .val (.long (-9223372036854775808 : Int64)), .second, .unset, .unset, .unset, .unset, .unset, .unset, .unset]) rfl) ?_
          refine own_go (fun _ => XS.iconst X14.here hx rfl (hb hby at_217)) ?_
          show own_Go p e below _ (T14.setTop (mkF m 218 #[.val (.int x0), .val (.int x1), .val (.int x2), .val (.int x3), .val (.long l1), .second, .val (.long l2), .second, .val (.long l3), .second, .val (.int m1), .val (.int m2), .val (.int m3), .val (.int d), .val (.ref a1), .val (.ref a13), .val (.int (0 : Int32)), .val (.int (0 : Int32)), .val (.int (0 : Int32)), .val (.long (-9223372036854775808 : Int64)), .second, .val (.int (0 : Int32)), .val (.long (-9223372036854775808 : Int64)), .second, .unset, .unset, .unset, .unset, .unset, .unset, .unset] [(.int (0 : Int32))]))
          refine own_go (fun _ => XS.istore X14.here hx rfl (hb hby at_218) rfl (l' := #[.val (.int x0), .val (.int x1), .val (.int x2), .val (.int x3), .val (.long l1), .second, .val (.long l2), .second, .val (.long l3), .second, .val (.int m1), .val (.int m2), .val (.int m3), .val (.int d), .val (.ref a1), .val (.ref a13), .val (.int (0 : Int32)), .val (.int (0 : Int32)), .val (.int (0 : Int32)), .val (.long (-9223372036854775808 : Int64)), .second, .val (.int (0 : Int32)), .val (.long (-9223372036854775808 : Int64)), .second, .val (.int (0 : Int32)), .unset, .unset, .unset, .unset, .unset, .unset]) rfl) ?_
          refine own_go (fun _ => XS.iload X14.here hx rfl (hb hby at_220) rfl) ?_
          refine own_go (fun _ => XS.ifYes X14.here hx rfl (pc0 := 222) (pc' := 240) rfl (hb hby at_222) rfl (XT.i0_eq_t (by decide)) (by decide) (by decide)) ?_
          refine own_go (fun _ => XS.iload X14.here hx rfl (hb hby at_240) rfl) ?_
          refine own_go (fun _ => XS.ifYes X14.here hx rfl (pc0 := 242) (pc' := 257) rfl (hb hby at_242) rfl (XT.i0_eq_t (by decide)) (by decide) (by decide)) ?_
          refine own_go (X14.ldc2Long hx hown (mvT hZ (hw _ (List.mem_of_getElem? (i := 75) rfl))) (g := (mkF m 257 #[.val (.int x0), .val (.int x1), .val (.int x2), .val (.int x3), .val (.long l1), .second, .val (.long l2), .second, .val (.long l3), .second, .val (.int m1), .val (.int m2), .val (.int m3), .val (.int d), .val (.ref a1), .val (.ref a13), .val (.int (0 : Int32)), .val (.int (0 : Int32)), .val (.int (0 : Int32)), .val (.long (-9223372036854775808 : Int64)), .second, .val (.int (0 : Int32)), .val (.long (-9223372036854775808 : Int64)), .second, .val (.int (0 : Int32)), .unset, .unset, .unset, .unset, .unset, .unset] [])) rfl (hb hby at_257)) ?_
          show own_Go p e below _ (T14.setTop (mkF m 260 #[.val (.int x0), .val (.int x1), .val (.int x2), .val (.int x3), .val (.long l1), .second, .val (.long l2), .second, .val (.long l3), .second, .val (.int m1), .val (.int m2), .val (.int m3), .val (.int d), .val (.ref a1), .val (.ref a13), .val (.int (0 : Int32)), .val (.int (0 : Int32)), .val (.int (0 : Int32)), .val (.long (-9223372036854775808 : Int64)), .second, .val (.int (0 : Int32)), .val (.long (-9223372036854775808 : Int64)), .second, .val (.int (0 : Int32)), .unset, .unset, .unset, .unset, .unset, .unset] [(.long (-9223372036854775808 : Int64))]))
          refine own_go (fun _ => XT.lstore X14.here hx rfl (hb hby at_260) rfl (l' := #[.val (.int x0), .val (.int x1), .val (.int x2), .val (.int x3), .val (.long l1), .second, .val (.long l2), .second, .val (.long l3), .second, .val (.int m1), .val (.int m2), .val (.int m3), .val (.int d), .val (.ref a1), .val (.ref a13), .val (.int (0 : Int32)), .val (.int (0 : Int32)), .val (.int (0 : Int32)), .val (.long (-9223372036854775808 : Int64)), .second, .val (.int (0 : Int32)), .val (.long (-9223372036854775808 : Int64)), .second, .val (.int (0 : Int32)), .val (.long (-9223372036854775808 : Int64)), .second, .unset, .unset, .unset, .unset]) rfl) ?_
          refine own_go (fun _ => XS.iconst X14.here hx rfl (hb hby at_262)) ?_
          refine own_go (fun _ => XS.istore X14.here hx rfl (hb hby at_263) rfl (l' := #[.val (.int x0), .val (.int x1), .val (.int x2), .val (.int x3), .val (.long l1), .second, .val (.long l2), .second, .val (.long l3), .second, .val (.int m1), .val (.int m2), .val (.int m3), .val (.int d), .val (.ref a1), .val (.ref a13), .val (.int (0 : Int32)), .val (.int (0 : Int32)), .val (.int (0 : Int32)), .val (.long (-9223372036854775808 : Int64)), .second, .val (.int (0 : Int32)), .val (.long (-9223372036854775808 : Int64)), .second, .val (.int (0 : Int32)), .val (.long (-9223372036854775808 : Int64)), .second, .val (.int (0 : Int32)), .unset, .unset, .unset]) rfl) ?_
          refine own_go (fun _ => XS.iload X14.here hx rfl (hb hby at_265) rfl) ?_
          refine own_go (fun _ => XS.ifYes X14.here hx rfl (pc0 := 267) (pc' := 285) rfl (hb hby at_267) rfl (XT.i0_eq_t (by decide)) (by decide) (by decide)) ?_
          refine own_go (fun _ => XS.iload X14.here hx rfl (hb hby at_285) rfl) ?_
          show own_Go p e below _ (T14.setTop (mkF m 287 #[.val (.int x0), .val (.int x1), .val (.int x2), .val (.int x3), .val (.long l1), .second, .val (.long l2), .second, .val (.long l3), .second, .val (.int m1), .val (.int m2), .val (.int m3), .val (.int d), .val (.ref a1), .val (.ref a13), .val (.int (0 : Int32)), .val (.int (0 : Int32)), .val (.int (0 : Int32)), .val (.long (-9223372036854775808 : Int64)), .second, .val (.int (0 : Int32)), .val (.long (-9223372036854775808 : Int64)), .second, .val (.int (0 : Int32)), .val (.long (-9223372036854775808 : Int64)), .second, .val (.int (0 : Int32)), .unset, .unset, .unset] [(.int (0 : Int32))]))
          refine own_go (fun _ => XS.ifYes X14.here hx rfl (pc0 := 287) (pc' := 305) rfl (hb hby at_287) rfl (XT.i0_eq_t (by decide)) (by decide) (by decide)) ?_
          refine own_go (fun _ => XS.iload X14.here hx rfl (hb hby at_305) rfl) ?_
          refine own_go (fun _ => XS.ifYes X14.here hx rfl (pc0 := 307) (pc' := 322) rfl (hb hby at_307) rfl (XT.i0_eq_t (by decide)) (by decide) (by decide)) ?_
          show own_Go p e below _ (T14.setTop (mkF m 322 #[.val (.int x0), .val (.int x1), .val (.int x2), .val (.int x3), .val (.long l1), .second, .val (.long l2), .second, .val (.long l3), .second, .val (.int m1), .val (.int m2), .val (.int m3), .val (.int d), .val (.ref a1), .val (.ref a13), .val (.int (0 : Int32)), .val (.int (0 : Int32)), .val (.int (0 : Int32)), .val (.long (-9223372036854775808 : Int64)), .second, .val (.int (0 : Int32)), .val (.long (-9223372036854775808 : Int64)), .second, .val (.int (0 : Int32)), .val (.long (-9223372036854775808 : Int64)), .second, .val (.int (0 : Int32)), .unset, .unset, .unset] []))
          exact G322 _ _ _ _ _ _ _ _ _ (by rw [hEE]; simp [own_keep, own_ans, hm0, hm1, hm2]) (by rw [hEE]; simp [own_keep, own_ans, hm0, hm1, hm2]) (by rw [hEE]; simp [own_keep, own_ans, hm0, hm1, hm2])
        · skip
          refine own_go (fun _ => XS.icmpNo X14.here hx rfl (hb hby at_181) rfl (XT.ii_eq_f hm2)) ?_
          refine own_go (fun _ => XS.iconst X14.here hx rfl (hb hby at_184)) ?_
          refine own_go (fun _ => XS.goto X14.here hx rfl (pc0 := 185) (pc' := 189) rfl (hb hby at_185) (by decide) (by decide)) ?_
          refine own_go (fun _ => XS.istore X14.here hx rfl (hb hby at_189) rfl (l' := #[.val (.int x0), .val (.int x1), .val (.int x2), .val (.int x3), .val (.long l1), .second, .val (.long l2), .second, .val (.long l3), .second, .val (.int m1), .val (.int m2), .val (.int m3), .val (.int d), .val (.ref a1), .val (.ref a13), .val (.int (0 : Int32)), .val (.int (0 : Int32)), .val (.int (1 : Int32)), .unset, .unset, .unset, .unset, .unset, .unset, .unset, .unset, .unset, .unset, .unset, .unset]) rfl) ?_
          refine own_go (X14.ldc2Long hx hown (mvT hZ (hw _ (List.mem_of_getElem? (i := 75) rfl))) (g := (mkF m 191 #[.val (.int x0), .val (.int x1), .val (.int x2), .val (.int x3), .val (.long l1), .second, .val (.long l2), .second, .val (.long l3), .second, .val (.int m1), .val (.int m2), .val (.int m3), .val (.int d), .val (.ref a1), .val (.ref a13), .val (.int (0 : Int32)), .val (.int (0 : Int32)), .val (.int (1 : Int32)), .unset, .unset, .unset, .unset, .unset, .unset, .unset, .unset, .unset, .unset, .unset, .unset] [])) rfl (hb hby at_191)) ?_
          refine own_go (fun _ => XT.lstore X14.here hx rfl (hb hby at_194) rfl (l' := #[.val (.int x0), .val (.int x1), .val (.int x2), .val (.int x3), .val (.long l1), .second, .val (.long l2), .second, .val (.long l3), .second, .val (.int m1), .val (.int m2), .val (.int m3), .val (.int d), .val (.ref a1), .val (.ref a13), .val (.int (0 : Int32)), .val (.int (0 : Int32)), .val (.int (1 : Int32)), .val (.long (-9223372036854775808 : Int64)), .second, .unset, .unset, .unset, .unset, .unset, .unset, .unset, .unset, .unset, .unset]) rfl) ?_
          show own_Go p e below _ (T14.setTop (mkF m 196 #[.val (.int x0), .val (.int x1), .val (.int x2), .val (.int x3), .val (.long l1), .second, .val (.long l2), .second, .val (.long l3), .second, .val (.int m1), .val (.int m2), .val (.int m3), .val (.int d), .val (.ref a1), .val (.ref a13), .val (.int (0 : Int32)), .val (.int (0 : Int32)), .val (.int (1 : Int32)), .val (.long (-9223372036854775808 : Int64)), .second, .unset, .unset, .unset, .unset, .unset, .unset, .unset, .unset, .unset, .unset] []))
          refine own_go (fun _ => XS.iconst X14.here hx rfl (hb hby at_196)) ?_
          refine own_go (fun _ => XS.istore X14.here hx rfl (hb hby at_197) rfl (l' := #[.val (.int x0), .val (.int x1), .val (.int x2), .val (.int x3), .val (.long l1), .second, .val (.long l2), .second, .val (.long l3), .second, .val (.int m1), .val (.int m2), .val (.int m3), .val (.int d), .val (.ref a1), .val (.ref a13), .val (.int (0 : Int32)), .val (.int (0 : Int32)), .val (.int (1 : Int32)), .val (.long (-9223372036854775808 : Int64)), .second, .val (.int (0 : Int32)), .unset, .unset, .unset, .unset, .unset, .unset, .unset, .unset, .unset]) rfl) ?_
          refine own_go (fun _ => XS.iload X14.here hx rfl (hb hby at_199) rfl) ?_
          refine own_go (fun _ => XS.ifYes X14.here hx rfl (pc0 := 201) (pc' := 212) rfl (hb hby at_201) rfl (XT.i0_eq_t (by decide)) (by decide) (by decide)) ?_
          refine own_go (X14.ldc2Long hx hown (mvT hZ (hw _ (List.mem_of_getElem? (i := 75) rfl))) (g := (mkF m 212 #[.val (.int x0), .val (.int x1), .val (.int x2), .val (.int x3), .val (.long l1), .second, .val (.long l2), .second, .val (.long l3), .second, .val (.int m1), .val (.int m2), .val (.int m3), .val (.int d), .val (.ref a1), .val (.ref a13), .val (.int (0 : Int32)), .val (.int (0 : Int32)), .val (.int (1 : Int32)), .val (.long (-9223372036854775808 : Int64)), .second, .val (.int (0 : Int32)), .unset, .unset, .unset, .unset, .unset, .unset, .unset, .unset, .unset] [])) rfl (hb hby at_212)) ?_
          refine own_go (fun _ => XT.lstore X14.here hx rfl (hb hby at_215) rfl (l' := #[.val (.int x0), .val (.int x1), .val (.int x2), .val (.int x3), .val (.long l1), .second, .val (.long l2), .second, .val (.long l3), .second, .val (.int m1), .val (.int m2), .val (.int m3), .val (.int d), .val (.ref a1), .val (.ref a13), .val (.int (0 : Int32)), .val (.int (0 : Int32)), .val (.int (1 : Int32)), .val (.long (-9223372036854775808 : Int64)), .second, .val (.int (0 : Int32)), .val (.long (-9223372036854775808 : Int64)), .second, .unset, .unset, .unset, .unset, .unset, .unset, .unset]) rfl) ?_
          show own_Go p e below _ (T14.setTop (mkF m 217 #[.val (.int x0), .val (.int x1), .val (.int x2), .val (.int x3), .val (.long l1), .second, .val (.long l2), .second, .val (.long l3), .second, .val (.int m1), .val (.int m2), .val (.int m3), .val (.int d), .val (.ref a1), .val (.ref a13), .val (.int (0 : Int32)), .val (.int (0 : Int32)), .val (.int (1 : Int32)), .val (.long (-9223372036854775808 : Int64)), .second, .val (.int (0 : Int32)), .val (.long (-9223372036854775808 : Int64)), .second, .unset, .unset, .unset, .unset, .unset, .unset, .unset] []))
          refine own_go (fun _ => XS.iconst X14.here hx rfl (hb hby at_217)) ?_
          refine own_go (fun _ => XS.istore X14.here hx rfl (hb hby at_218) rfl (l' := #[.val (.int x0), .val (.int x1), .val (.int x2), .val (.int x3), .val (.long l1), .second, .val (.long l2), .second, .val (.long l3), .second, .val (.int m1), .val (.int m2), .val (.int m3), .val (.int d), .val (.ref a1), .val (.ref a13), .val (.int (0 : Int32)), .val (.int (0 : Int32)), .val (.int (1 : Int32)), .val (.long (-9223372036854775808 : Int64)), .second, .val (.int (0 : Int32)), .val (.long (-9223372036854775808 : Int64)), .second, .val (.int (0 : Int32)), .unset, .unset, .unset, .unset, .unset, .unset]) rfl) ?_
          refine own_go (fun _ => XS.iload X14.here hx rfl (hb hby at_220) rfl) ?_
          refine own_go (fun _ => XS.ifYes X14.here hx rfl (pc0 := 222) (pc' := 240) rfl (hb hby at_222) rfl (XT.i0_eq_t (by decide)) (by decide) (by decide)) ?_
          refine own_go (fun _ => XS.iload X14.here hx rfl (hb hby at_240) rfl) ?_
          refine own_go (fun _ => XS.ifYes X14.here hx rfl (pc0 := 242) (pc' := 257) rfl (hb hby at_242) rfl (XT.i0_eq_t (by decide)) (by decide) (by decide)) ?_
          show own_Go p e below _ (T14.setTop (mkF m 257 #[.val (.int x0), .val (.int x1), .val (.int x2), .val (.int x3), .val (.long l1), .second, .val (.long l2), .second, .val (.long l3), .second, .val (.int m1), .val (.int m2), .val (.int m3), .val (.int d), .val (.ref a1), .val (.ref a13), .val (.int (0 : Int32)), .val (.int (0 : Int32)), .val (.int (1 : Int32)), .val (.long (-9223372036854775808 : Int64)), .second, .val (.int (0 : Int32)), .val (.long (-9223372036854775808 : Int64)), .second, .val (.int (0 : Int32)), .unset, .unset, .unset, .unset, .unset, .unset] []))
          refine own_go (X14.ldc2Long hx hown (mvT hZ (hw _ (List.mem_of_getElem? (i := 75) rfl))) (g := (mkF m 257 #[.val (.int x0), .val (.int x1), .val (.int x2), .val (.int x3), .val (.long l1), .second, .val (.long l2), .second, .val (.long l3), .second, .val (.int m1), .val (.int m2), .val (.int m3), .val (.int d), .val (.ref a1), .val (.ref a13), .val (.int (0 : Int32)), .val (.int (0 : Int32)), .val (.int (1 : Int32)), .val (.long (-9223372036854775808 : Int64)), .second, .val (.int (0 : Int32)), .val (.long (-9223372036854775808 : Int64)), .second, .val (.int (0 : Int32)), .unset, .unset, .unset, .unset, .unset, .unset] [])) rfl (hb hby at_257)) ?_
          refine own_go (fun _ => XT.lstore X14.here hx rfl (hb hby at_260) rfl (l' := #[.val (.int x0), .val (.int x1), .val (.int x2), .val (.int x3), .val (.long l1), .second, .val (.long l2), .second, .val (.long l3), .second, .val (.int m1), .val (.int m2), .val (.int m3), .val (.int d), .val (.ref a1), .val (.ref a13), .val (.int (0 : Int32)), .val (.int (0 : Int32)), .val (.int (1 : Int32)), .val (.long (-9223372036854775808 : Int64)), .second, .val (.int (0 : Int32)), .val (.long (-9223372036854775808 : Int64)), .second, .val (.int (0 : Int32)), .val (.long (-9223372036854775808 : Int64)), .second, .unset, .unset, .unset, .unset]) rfl) ?_
          refine own_go (fun _ => XS.iconst X14.here hx rfl (hb hby at_262)) ?_
          refine own_go (fun _ => XS.istore X14.here hx rfl (hb hby at_263) rfl (l' := #[.val (.int x0), .val (.int x1), .val (.int x2), .val (.int x3), .val (.long l1), .second, .val (.long l2), .second, .val (.long l3), .second, .val (.int m1), .val (.int m2), .val (.int m3), .val (.int d), .val (.ref a1), .val (.ref a13), .val (.int (0 : Int32)), .val (.int (0 : Int32)), .val (.int (1 : Int32)), .val (.long (-9223372036854775808 : Int64)), .second, .val (.int (0 : Int32)), .val (.long (-9223372036854775808 : Int64)), .second, .val (.int (0 : Int32)), .val (.long (-9223372036854775808 : Int64)), .second, .val (.int (0 : Int32)), .unset, .unset, .unset]) rfl) ?_
          refine own_go (fun _ => XS.iload X14.here hx rfl (hb hby at_265) rfl) ?_
          refine own_go (fun _ => XS.ifNo X14.here hx rfl (hb hby at_267) rfl (XT.i0_eq_f (by decide))) ?_
          show own_Go p e below _ (T14.setTop (mkF m 270 #[.val (.int x0), .val (.int x1), .val (.int x2), .val (.int x3), .val (.long l1), .second, .val (.long l2), .second, .val (.long l3), .second, .val (.int m1), .val (.int m2), .val (.int m3), .val (.int d), .val (.ref a1), .val (.ref a13), .val (.int (0 : Int32)), .val (.int (0 : Int32)), .val (.int (1 : Int32)), .val (.long (-9223372036854775808 : Int64)), .second, .val (.int (0 : Int32)), .val (.long (-9223372036854775808 : Int64)), .second, .val (.int (0 : Int32)), .val (.long (-9223372036854775808 : Int64)), .second, .val (.int (0 : Int32)), .unset, .unset, .unset] []))
          refine own_go (X14.ldc2Long hx hown (mvT hZ (hw _ (List.mem_of_getElem? (i := 69) rfl))) (g := (mkF m 270 #[.val (.int x0), .val (.int x1), .val (.int x2), .val (.int x3), .val (.long l1), .second, .val (.long l2), .second, .val (.long l3), .second, .val (.int m1), .val (.int m2), .val (.int m3), .val (.int d), .val (.ref a1), .val (.ref a13), .val (.int (0 : Int32)), .val (.int (0 : Int32)), .val (.int (1 : Int32)), .val (.long (-9223372036854775808 : Int64)), .second, .val (.int (0 : Int32)), .val (.long (-9223372036854775808 : Int64)), .second, .val (.int (0 : Int32)), .val (.long (-9223372036854775808 : Int64)), .second, .val (.int (0 : Int32)), .unset, .unset, .unset] [])) rfl (hb hby at_270)) ?_
          refine own_go (fun _ => XT.lload X14.here hx rfl (hb hby at_273) rfl) ?_
          refine own_go (fun _ => XT.ladd X14.here hx rfl (hb hby at_275) rfl) ?_
          refine own_go (fun _ => XT.lstore X14.here hx rfl (hb hby at_276) rfl (l' := #[.val (.int x0), .val (.int x1), .val (.int x2), .val (.int x3), .val (.long l1), .second, .val (.long l2), .second, .val (.long l3), .second, .val (.int m1), .val (.int m2), .val (.int m3), .val (.int d), .val (.ref a1), .val (.ref a13), .val (.int (0 : Int32)), .val (.int (0 : Int32)), .val (.int (1 : Int32)), .val (.long (-9223372036854775808 : Int64)), .second, .val (.int (0 : Int32)), .val (.long (-9223372036854775808 : Int64)), .second, .val (.int (0 : Int32)), .val (.long ((20 : Int64) + l3)), .second, .val (.int (0 : Int32)), .unset, .unset, .unset]) rfl) ?_
          refine own_go (fun _ => XS.iload X14.here hx rfl (hb hby at_278) rfl) ?_
          refine own_go (fun _ => XS.istore X14.here hx rfl (hb hby at_280) rfl (l' := #[.val (.int x0), .val (.int x1), .val (.int x2), .val (.int x3), .val (.long l1), .second, .val (.long l2), .second, .val (.long l3), .second, .val (.int m1), .val (.int m2), .val (.int m3), .val (.int d), .val (.ref a1), .val (.ref a13), .val (.int (0 : Int32)), .val (.int (0 : Int32)), .val (.int (1 : Int32)), .val (.long (-9223372036854775808 : Int64)), .second, .val (.int (0 : Int32)), .val (.long (-9223372036854775808 : Int64)), .second, .val (.int (0 : Int32)), .val (.long ((20 : Int64) + l3)), .second, .val (.int m3), .unset, .unset, .unset]) rfl) ?_
          show own_Go p e below _ (T14.setTop (mkF m 282 #[.val (.int x0), .val (.int x1), .val (.int x2), .val (.int x3), .val (.long l1), .second, .val (.long l2), .second, .val (.long l3), .second, .val (.int m1), .val (.int m2), .val (.int m3), .val (.int d), .val (.ref a1), .val (.ref a13), .val (.int (0 : Int32)), .val (.int (0 : Int32)), .val (.int (1 : Int32)), .val (.long (-9223372036854775808 : Int64)), .second, .val (.int (0 : Int32)), .val (.long (-9223372036854775808 : Int64)), .second, .val (.int (0 : Int32)), .val (.long ((20 : Int64) + l3)), .second, .val (.int m3), .unset, .unset, .unset] []))
          refine own_go (fun _ => XS.goto X14.here hx rfl (pc0 := 282) (pc' := 322) rfl (hb hby at_282) (by decide) (by decide)) ?_
          show own_Go p e below _ (T14.setTop (mkF m 322 #[.val (.int x0), .val (.int x1), .val (.int x2), .val (.int x3), .val (.long l1), .second, .val (.long l2), .second, .val (.long l3), .second, .val (.int m1), .val (.int m2), .val (.int m3), .val (.int d), .val (.ref a1), .val (.ref a13), .val (.int (0 : Int32)), .val (.int (0 : Int32)), .val (.int (1 : Int32)), .val (.long (-9223372036854775808 : Int64)), .second, .val (.int (0 : Int32)), .val (.long (-9223372036854775808 : Int64)), .second, .val (.int (0 : Int32)), .val (.long ((20 : Int64) + l3)), .second, .val (.int m3), .unset, .unset, .unset] []))
          exact G322 _ _ _ _ _ _ _ _ _ (by rw [hEE]; simp [own_keep, own_ans, hm0, hm1, hm2]) (by rw [hEE]; simp [own_keep, own_ans, hm0, hm1, hm2]) (by rw [hEE]; simp [own_keep, own_ans, hm0, hm1, hm2])
      · skip
        refine own_go (fun _ => XS.icmpNo X14.here hx rfl (hb hby at_167) rfl (XT.ii_eq_f hm1)) ?_
        refine own_go (fun _ => XS.iconst X14.here hx rfl (hb hby at_170)) ?_
        refine own_go (fun _ => XS.goto X14.here hx rfl (pc0 := 171) (pc' := 175) rfl (hb hby at_171) (by decide) (by decide)) ?_
        refine own_go (fun _ => XS.istore X14.here hx rfl (hb hby at_175) rfl (l' := #[.val (.int x0), .val (.int x1), .val (.int x2), .val (.int x3), .val (.long l1), .second, .val (.long l2), .second, .val (.long l3), .second, .val (.int m1), .val (.int m2), .val (.int m3), .val (.int d), .val (.ref a1), .val (.ref a13), .val (.int (0 : Int32)), .val (.int (1 : Int32)), .unset, .unset, .unset, .unset, .unset, .unset, .unset, .unset, .unset, .unset, .unset, .unset, .unset]) rfl) ?_
        refine own_go (fun _ => XS.iload X14.here hx rfl (hb hby at_177) rfl) ?_
        refine own_go (fun _ => XS.iload X14.here hx rfl (hb hby at_179) rfl) ?_
        show own_Go p e below _ (T14.setTop (mkF m 181 #[.val (.int x0), .val (.int x1), .val (.int x2), .val (.int x3), .val (.long l1), .second, .val (.long l2), .second, .val (.long l3), .second, .val (.int m1), .val (.int m2), .val (.int m3), .val (.int d), .val (.ref a1), .val (.ref a13), .val (.int (0 : Int32)), .val (.int (1 : Int32)), .unset, .unset, .unset, .unset, .unset, .unset, .unset, .unset, .unset, .unset, .unset, .unset, .unset] [(.int d), (.int m3)]))
        by_cases hm2 : m3 = d
        · skip
          refine own_go (fun _ => XS.icmpYes X14.here hx rfl (pc0 := 181) (pc' := 188) rfl (hb hby at_181) rfl (XT.ii_eq_t hm2) (by decide) (by decide)) ?_
          refine own_go (fun _ => XS.iconst X14.here hx rfl (hb hby at_188)) ?_
          refine own_go (fun _ => XS.istore X14.here hx rfl (hb hby at_189) rfl (l' := #[.val (.int x0), .val (.int x1), .val (.int x2), .val (.int x3), .val (.long l1), .second, .val (.long l2), .second, .val (.long l3), .second, .val (.int m1), .val (.int m2), .val (.int m3), .val (.int d), .val (.ref a1), .val (.ref a13), .val (.int (0 : Int32)), .val (.int (1 : Int32)), .val (.int (0 : Int32)), .unset, .unset, .unset, .unset, .unset, .unset, .unset, .unset, .unset, .unset, .unset, .unset]) rfl) ?_
          refine own_go (X14.ldc2Long hx hown (mvT hZ (hw _ (List.mem_of_getElem? (i := 75) rfl))) (g := (mkF m 191 #[.val (.int x0), .val (.int x1), .val (.int x2), .val (.int x3), .val (.long l1), .second, .val (.long l2), .second, .val (.long l3), .second, .val (.int m1), .val (.int m2), .val (.int m3), .val (.int d), .val (.ref a1), .val (.ref a13), .val (.int (0 : Int32)), .val (.int (1 : Int32)), .val (.int (0 : Int32)), .unset, .unset, .unset, .unset, .unset, .unset, .unset, .unset, .unset, .unset, .unset, .unset] [])) rfl (hb hby at_191)) ?_
          refine own_go (fun _ => XT.lstore X14.here hx rfl (hb hby at_194) rfl (l' := #[.val (.int x0), .val (.int x1), .val (.int x2), .val (.int x3), .val (.long l1), .second, .val (.long l2), .second, .val (.long l3), .second, .val (.int m1), .val (.int m2), .val (.int m3), .val (.int d), .val (.ref a1), .val (.ref a13), .val (.int (0 : Int32)), .val (.int (1 : Int32)), .val (.int (0 : Int32)), .val (.long (-9223372036854775808 : Int64)), .second, .unset, .unset, .unset, .unset, .unset, .unset, .unset, .unset, .unset, .unset]) rfl) ?_
          refine own_go (fun _ => XS.iconst X14.here hx rfl (hb hby at_196)) ?_
          show own_Go p e below _ (T14.setTop (mkF m 197 #[.val (.int x0), .val (.int x1), .val (.int x2), .val (.int x3), .val (.long l1), .second, .val (.long l2), .second, .val (.long l3), .second, .val (.int m1), .val (.int m2), .val (.int m3), .val (.int d), .val (.ref a1), .val (.ref a13), .val (.int (0 : Int32)), .val (.int (1 : Int32)), .val (.int (0 : Int32)), .val (.long (-9223372036854775808 : Int64)), .second, .unset, .unset, .unset, .unset, .unset, .unset, .unset, .unset, .unset, .unset] [(.int (0 : Int32))]))
          refine own_go (fun _ => XS.istore X14.here hx rfl (hb hby at_197) rfl (l' := #[.val (.int x0), .val (.int x1), .val (.int x2), .val (.int x3), .val (.long l1), .second, .val (.long l2), .second, .val (.long l3), .second, .val (.int m1), .val (.int m2), .val (.int m3), .val (.int d), .val (.ref a1), .val (.ref a13), .val (.int (0 : Int32)), .val (.int (1 : Int32)), .val (.int (0 : Int32)), .val (.long (-9223372036854775808 : Int64)), .second, .val (.int (0 : Int32)), .unset, .unset, .unset, .unset, .unset, .unset, .unset, .unset, .unset]) rfl) ?_
          refine own_go (fun _ => XS.iload X14.here hx rfl (hb hby at_199) rfl) ?_
          refine own_go (fun _ => XS.ifYes X14.here hx rfl (pc0 := 201) (pc' := 212) rfl (hb hby at_201) rfl (XT.i0_eq_t (by decide)) (by decide) (by decide)) ?_
          refine own_go (X14.ldc2Long hx hown (mvT hZ (hw _ (List.mem_of_getElem? (i := 75) rfl))) (g := (mkF m 212 #[.val (.int x0), .val (.int x1), .val (.int x2), .val (.int x3), .val (.long l1), .second, .val (.long l2), .second, .val (.long l3), .second, .val (.int m1), .val (.int m2), .val (.int m3), .val (.int d), .val (.ref a1), .val (.ref a13), .val (.int (0 : Int32)), .val (.int (1 : Int32)), .val (.int (0 : Int32)), .val (.long (-9223372036854775808 : Int64)), .second, .val (.int (0 : Int32)), .unset, .unset, .unset, .unset, .unset, .unset, .unset, .unset, .unset] [])) rfl (hb hby at_212)) ?_
          refine own_go (fun _ => XT.lstore X14.here hx rfl (hb hby at_215) rfl (l' := #[.val (.int x0), .val (.int x1), .val (.int x2), .val (.int x3), .val (.long l1), .second, .val (.long l2), .second, .val (.long l3), .second, .val (.int m1), .val (.int m2), .val (.int m3), .val (.int d), .val (.ref a1), .val (.ref a13), .val (.int (0 : Int32)), .val (.int (1 : Int32)), .val (.int (0 : Int32)), .val (.long (-9223372036854775808 : Int64)), .second, .val (.int (0 : Int32)), .val (.long (-9223372036854775808 : Int64)), .second, .unset, .unset, .unset, .unset, .unset, .unset, .unset]) rfl) ?_
          refine own_go (fun _ => XS.iconst X14.here hx rfl (hb hby at_217)) ?_
          show own_Go p e below _ (T14.setTop (mkF m 218 #[.val (.int x0), .val (.int x1), .val (.int x2), .val (.int x3), .val (.long l1), .second, .val (.long l2), .second, .val (.long l3), .second, .val (.int m1), .val (.int m2), .val (.int m3), .val (.int d), .val (.ref a1), .val (.ref a13), .val (.int (0 : Int32)), .val (.int (1 : Int32)), .val (.int (0 : Int32)), .val (.long (-9223372036854775808 : Int64)), .second, .val (.int (0 : Int32)), .val (.long (-9223372036854775808 : Int64)), .second, .unset, .unset, .unset, .unset, .unset, .unset, .unset] [(.int (0 : Int32))]))
          refine own_go (fun _ => XS.istore X14.here hx rfl (hb hby at_218) rfl (l' := #[.val (.int x0), .val (.int x1), .val (.int x2), .val (.int x3), .val (.long l1), .second, .val (.long l2), .second, .val (.long l3), .second, .val (.int m1), .val (.int m2), .val (.int m3), .val (.int d), .val (.ref a1), .val (.ref a13), .val (.int (0 : Int32)), .val (.int (1 : Int32)), .val (.int (0 : Int32)), .val (.long (-9223372036854775808 : Int64)), .second, .val (.int (0 : Int32)), .val (.long (-9223372036854775808 : Int64)), .second, .val (.int (0 : Int32)), .unset, .unset, .unset, .unset, .unset, .unset]) rfl) ?_
          refine own_go (fun _ => XS.iload X14.here hx rfl (hb hby at_220) rfl) ?_
          refine own_go (fun _ => XS.ifNo X14.here hx rfl (hb hby at_222) rfl (XT.i0_eq_f (by decide))) ?_
          refine own_go (X14.ldc2Long hx hown (mvT hZ (hw _ (List.mem_of_getElem? (i := 60) rfl))) (g := (mkF m 225 #[.val (.int x0), .val (.int x1), .val (.int x2), .val (.int x3), .val (.long l1), .second, .val (.long l2), .second, .val (.long l3), .second, .val (.int m1), .val (.int m2), .val (.int m3), .val (.int d), .val (.ref a1), .val (.ref a13), .val (.int (0 : Int32)), .val (.int (1 : Int32)), .val (.int (0 : Int32)), .val (.long (-9223372036854775808 : Int64)), .second, .val (.int (0 : Int32)), .val (.long (-9223372036854775808 : Int64)), .second, .val (.int (0 : Int32)), .unset, .unset, .unset, .unset, .unset, .unset] [])) rfl (hb hby at_225)) ?_
          refine own_go (fun _ => XT.lload X14.here hx rfl (hb hby at_228) rfl) ?_
          refine own_go (fun _ => XT.ladd X14.here hx rfl (hb hby at_230) rfl) ?_
          show own_Go p e below _ (T14.setTop (mkF m 231 #[.val (.int x0), .val (.int x1), .val (.int x2), .val (.int x3), .val (.long l1), .second, .val (.long l2), .second, .val (.long l3), .second, .val (.int m1), .val (.int m2), .val (.int m3), .val (.int d), .val (.ref a1), .val (.ref a13), .val (.int (0 : Int32)), .val (.int (1 : Int32)), .val (.int (0 : Int32)), .val (.long (-9223372036854775808 : Int64)), .second, .val (.int (0 : Int32)), .val (.long (-9223372036854775808 : Int64)), .second, .val (.int (0 : Int32)), .unset, .unset, .unset, .unset, .unset, .unset] [(.long ((10 : Int64) + l2))]))
          refine own_go (fun _ => XT.lstore X14.here hx rfl (hb hby at_231) rfl (l' := #[.val (.int x0), .val (.int x1), .val (.int x2), .val (.int x3), .val (.long l1), .second, .val (.long l2), .second, .val (.long l3), .second, .val (.int m1), .val (.int m2), .val (.int m3), .val (.int d), .val (.ref a1), .val (.ref a13), .val (.int (0 : Int32)), .val (.int (1 : Int32)), .val (.int (0 : Int32)), .val (.long (-9223372036854775808 : Int64)), .second, .val (.int (0 : Int32)), .val (.long ((10 : Int64) + l2)), .second, .val (.int (0 : Int32)), .unset, .unset, .unset, .unset, .unset, .unset]) rfl) ?_
          refine own_go (fun _ => XS.iload X14.here hx rfl (hb hby at_233) rfl) ?_
          refine own_go (fun _ => XS.istore X14.here hx rfl (hb hby at_235) rfl (l' := #[.val (.int x0), .val (.int x1), .val (.int x2), .val (.int x3), .val (.long l1), .second, .val (.long l2), .second, .val (.long l3), .second, .val (.int m1), .val (.int m2), .val (.int m3), .val (.int d), .val (.ref a1), .val (.ref a13), .val (.int (0 : Int32)), .val (.int (1 : Int32)), .val (.int (0 : Int32)), .val (.long (-9223372036854775808 : Int64)), .second, .val (.int (0 : Int32)), .val (.long ((10 : Int64) + l2)), .second, .val (.int m2), .unset, .unset, .unset, .unset, .unset, .unset]) rfl) ?_
          refine own_go (fun _ => XS.goto X14.here hx rfl (pc0 := 237) (pc' := 257) rfl (hb hby at_237) (by decide) (by decide)) ?_
          refine own_go (X14.ldc2Long hx hown (mvT hZ (hw _ (List.mem_of_getElem? (i := 75) rfl))) (g := (mkF m 257 #[.val (.int x0), .val (.int x1), .val (.int x2), .val (.int x3), .val (.long l1), .second, .val (.long l2), .second, .val (.long l3), .second, .val (.int m1), .val (.int m2), .val (.int m3), .val (.int d), .val (.ref a1), .val (.ref a13), .val (.int (0 : Int32)), .val (.int (1 : Int32)), .val (.int (0 : Int32)), .val (.long (-9223372036854775808 : Int64)), .second, .val (.int (0 : Int32)), .val (.long ((10 : Int64) + l2)), .second, .val (.int m2), .unset, .unset, .unset, .unset, .unset, .unset] [])) rfl (hb hby at_257)) ?_
          refine own_go (fun _ => XT.lstore X14.here hx rfl (hb hby at_260) rfl (l' := #[.val (.int x0), .val (.int x1), .val (.int x2), .val (.int x3), .val (.long l1), .second, .val (.long l2), .second, .val (.long l3), .second, .val (.int m1), .val (.int m2), .val (.int m3), .val (.int d), .val (.ref a1), .val (.ref a13), .val (.int (0 : Int32)), .val (.int (1 : Int32)), .val (.int (0 : Int32)), .val (.long (-9223372036854775808 : Int64)), .second, .val (.int (0 : Int32)), .val (.long ((10 : Int64) + l2)), .second, .val (.int m2), .val (.long (-9223372036854775808 : Int64)), .second, .unset, .unset, .unset, .unset]) rfl) ?_
          show own_Go p e below _ (T14.setTop (mkF m 262 #[.val (.int x0), .val (.int x1), .val (.int x2), .val (.int x3), .val (.long l1), .second, .val (.long l2), .second, .val (.long l3), .second, .val (.int m1), .val (.int m2), .val (.int m3), .val (.int d), .val (.ref a1), .val (.ref a13), .val (.int (0 : Int32)), .val (.int (1 : Int32)), .val (.int (0 : Int32)), .val (.long (-9223372036854775808 : Int64)), .second, .val (.int (0 : Int32)), .val (.long ((10 : Int64) + l2)), .second, .val (.int m2), .val (.long (-9223372036854775808 : Int64)), .second, .unset, .unset, .unset, .unset] []))
          refine own_go (fun _ => XS.iconst X14.here hx rfl (hb hby at_262)) ?_
          refine own_go (fun _ => XS.istore X14.here hx rfl (hb hby at_263) rfl (l' := #[.val (.int x0), .val (.int x1), .val (.int x2), .val (.int x3), .val (.long l1), .second, .val (.long l2), .second, .val (.long l3), .second, .val (.int m1), .val (.int m2), .val (.int m3), .val (.int d), .val (.ref a1), .val (.ref a13), .val (.int (0 : Int32)), .val (.int (1 : Int32)), .val (.int (0 : Int32)), .val (.long (-9223372036854775808 : Int64)), .second, .val (.int (0 : Int32)), .val (.long ((10 : Int64) + l2)), .second, .val (.int m2), .val (.long (-9223372036854775808 : Int64)), .second, .val (.int (0 : Int32)), .unset, .unset, .unset]) rfl) ?_
          refine own_go (fun _ => XS.iload X14.here hx rfl (hb hby at_265) rfl) ?_
          refine own_go (fun _ => XS.ifYes X14.here hx rfl (pc0 := 267) (pc' := 285) rfl (hb hby at_267) rfl (XT.i0_eq_t (by decide)) (by decide) (by decide)) ?_
          refine own_go (fun _ => XS.iload X14.here hx rfl (hb hby at_285) rfl) ?_
          refine own_go (fun _ => XS.ifNo X14.here hx rfl (hb hby at_287) rfl (XT.i0_eq_f (by decide))) ?_
          show own_Go p e below _ (T14.setTop (mkF m 290 #[.val (.int x0), .val (.int x1), .val (.int x2), .val (.int x3), .val (.long l1), .second, .val (.long l2), .second, .val (.long l3), .second, .val (.int m1), .val (.int m2), .val (.int m3), .val (.int d), .val (.ref a1), .val (.ref a13), .val (.int (0 : Int32)), .val (.int (1 : Int32)), .val (.int (0 : Int32)), .val (.long (-9223372036854775808 : Int64)), .second, .val (.int (0 : Int32)), .val (.long ((10 : Int64) + l2)), .second, .val (.int m2), .val (.long (-9223372036854775808 : Int64)), .second, .val (.int (0 : Int32)), .unset, .unset, .unset] []))
          refine own_go (X14.ldc2Long hx hown (mvT hZ (hw _ (List.mem_of_getElem? (i := 69) rfl))) (g := (mkF m 290 #[.val (.int x0), .val (.int x1), .val (.int x2), .val (.int x3), .val (.long l1), .second, .val (.long l2), .second, .val (.long l3), .second, .val (.int m1), .val (.int m2), .val (.int m3), .val (.int d), .val (.ref a1), .val (.ref a13), .val (.int (0 : Int32)), .val (.int (1 : Int32)), .val (.int (0 : Int32)), .val (.long (-9223372036854775808 : Int64)), .second, .val (.int (0 : Int32)), .val (.long ((10 : Int64) + l2)), .second, .val (.int m2), .val (.long (-9223372036854775808 : Int64)), .second, .val (.int (0 : Int32)), .unset, .unset, .unset] [])) rfl (hb hby at_290)) ?_
          refine own_go (fun _ => XT.lload X14.here hx rfl (hb hby at_293) rfl) ?_
          refine own_go (fun _ => XT.ladd X14.here hx rfl (hb hby at_295) rfl) ?_
          refine own_go (fun _ => XT.lstore X14.here hx rfl (hb hby at_296) rfl (l' := #[.val (.int x0), .val (.int x1), .val (.int x2), .val (.int x3), .val (.long l1), .second, .val (.long l2), .second, .val (.long l3), .second, .val (.int m1), .val (.int m2), .val (.int m3), .val (.int d), .val (.ref a1), .val (.ref a13), .val (.int (0 : Int32)), .val (.int (1 : Int32)), .val (.int (0 : Int32)), .val (.long (-9223372036854775808 : Int64)), .second, .val (.int (0 : Int32)), .val (.long ((10 : Int64) + l2)), .second, .val (.int m2), .val (.long ((20 : Int64) + l2)), .second, .val (.int (0 : Int32)), .unset, .unset, .unset]) rfl) ?_
          refine own_go (fun _ => XS.iload X14.here hx rfl (hb hby at_298) rfl) ?_
          refine own_go (fun _ => XS.istore X14.here hx rfl (hb hby at_300) rfl (l' := #[.val (.int x0), .val (.int x1), .val (.int x2), .val (.int x3), .val (.long l1), .second, .val (.long l2), .second, .val (.long l3), .second, .val (.int m1), .val (.int m2), .val (.int m3), .val (.int d), .val (.ref a1), .val (.ref a13), .val (.int (0 : Int32)), .val (.int (1 : Int32)), .val (.int (0 : Int32)), .val (.long (-9223372036854775808 : Int64)), .second, .val (.int (0 : Int32)), .val (.long ((10 : Int64) + l2)), .second, .val (.int m2), .val (.long ((20 : Int64) + l2)), .second, .val (.int m2), .unset, .unset, .unset]) rfl) ?_
          show own_Go p e below _ (T14.setTop (mkF m 302 #[.val (.int x0), .val (.int x1), .val (.int x2), .val (.int x3), .val (.long l1), .second, .val (.long l2), .second, .val (.long l3), .second, .val (.int m1), .val (.int m2), .val (.int m3), .val (.int d), .val (.ref a1), .val (.ref a13), .val (.int (0 : Int32)), .val (.int (1 : Int32)), .val (.int (0 : Int32)), .val (.long (-9223372036854775808 : Int64)), .second, .val (.int (0 : Int32)), .val (.long ((10 : Int64) + l2)), .second, .val (.int m2), .val (.long ((20 : Int64) + l2)), .second, .val (.int m2), .unset, .unset, .unset] []))
          refine own_go (fun _ => XS.goto X14.here hx rfl (pc0 := 302) (pc' := 322) rfl (hb hby at_302) (by decide) (by decide)) ?_
          show own_Go p e below _ (T14.setTop (mkF m 322 #[.val (.int x0), .val (.int x1), .val (.int x2), .val (.int x3), .val (.long l1), .second, .val (.long l2), .second, .val (.long l3), .second, .val (.int m1), .val (.int m2), .val (.int m3), .val (.int d), .val (.ref a1), .val (.ref a13), .val (.int (0 : Int32)), .val (.int (1 : Int32)), .val (.int (0 : Int32)), .val (.long (-9223372036854775808 : Int64)), .second, .val (.int (0 : Int32)), .val (.long ((10 : Int64) + l2)), .second, .val (.int m2), .val (.long ((20 : Int64) + l2)), .second, .val (.int m2), .unset, .unset, .unset] []))
          exact G322 _ _ _ _ _ _ _ _ _ (by rw [hEE]; simp [own_keep, own_ans, hm0, hm1, hm2]) (by rw [hEE]; simp [own_keep, own_ans, hm0, hm1, hm2]) (by rw [hEE]; simp [own_keep, own_ans, hm0, hm1, hm2])
        · skip
          refine own_go (fun _ => XS.icmpNo X14.here hx rfl (hb hby at_181) rfl (XT.ii_eq_f hm2)) ?_
          refine own_go (fun _ => XS.iconst X14.here hx rfl (hb hby at_184)) ?_
          refine own_go (fun _ => XS.goto X14.here hx rfl (pc0 := 185) (pc' := 189) rfl (hb hby at_185) (by decide) (by decide)) ?_
          refine own_go (fun _ => XS.istore X14.here hx rfl (hb hby at_189) rfl (l' := #[.val (.int x0), .val (.int x1), .val (.int x2), .val (.int x3), .val (.long l1), .second, .val (.long l2), .second, .val (.long l3), .second, .val (.int m1), .val (.int m2), .val (.int m3), .val (.int d), .val (.ref a1), .val (.ref a13), .val (.int (0 : Int32)), .val (.int (1 : Int32)), .val (.int (1 : Int32)), .unset, .unset, .unset, .unset, .unset, .unset, .unset, .unset, .unset, .unset, .unset, .unset]) rfl) ?_
          refine own_go (X14.ldc2Long hx hown (mvT hZ (hw _ (List.mem_of_getElem? (i := 75) rfl))) (g := (mkF m 191 #[.val (.int x0), .val (.int x1), .val (.int x2), .val (.int x3), .val (.long l1), .second, .val (.long l2), .second, .val (.long l3), .second, .val (.int m1), .val (.int m2), .val (.int m3), .val (.int d), .val (.ref a1), .val (.ref a13), .val (.int (0 : Int32)), .val (.int (1 : Int32)), .val (.int (1 : Int32)), .unset, .unset, .unset, .unset, .unset, .unset, .unset, .unset, .unset, .unset, .unset, .unset] [])) rfl (hb hby at_191)) ?_
          refine own_go (fun _ => XT.lstore X14.here hx rfl (hb hby at_194) rfl (l' := #[.val (.int x0), .val (.int x1), .val (.int x2), .val (.int x3), .val (.long l1), .second, .val (.long l2), .second, .val (.long l3), .second, .val (.int m1), .val (.int m2), .val (.int m3), .val (.int d), .val (.ref a1), .val (.ref a13), .val (.int (0 : Int32)), .val (.int (1 : Int32)), .val (.int (1 : Int32)), .val (.long (-9223372036854775808 : Int64)), .second, .unset, .unset, .unset, .unset, .unset, .unset, .unset, .unset, .unset, .unset]) rfl) ?_
          show own_Go p e below _ (T14.setTop (mkF m 196 #[.val (.int x0), .val (.int x1), .val (.int x2), .val (.int x3), .val (.long l1), .second, .val (.long l2), .second, .val (.long l3), .second, .val (.int m1), .val (.int m2), .val (.int m3), .val (.int d), .val (.ref a1), .val (.ref a13), .val (.int (0 : Int32)), .val (.int (1 : Int32)), .val (.int (1 : Int32)), .val (.long (-9223372036854775808 : Int64)), .second, .unset, .unset, .unset, .unset, .unset, .unset, .unset, .unset, .unset, .unset] []))
          refine own_go (fun _ => XS.iconst X14.here hx rfl (hb hby at_196)) ?_
          refine own_go (fun _ => XS.istore X14.here hx rfl (hb hby at_197) rfl (l' := #[.val (.int x0), .val (.int x1), .val (.int x2), .val (.int x3), .val (.long l1), .second, .val (.long l2), .second, .val (.long l3), .second, .val (.int m1), .val (.int m2), .val (.int m3), .val (.int d), .val (.ref a1), .val (.ref a13), .val (.int (0 : Int32)), .val (.int (1 : Int32)), .val (.int (1 : Int32)), .val (.long (-9223372036854775808 : Int64)), .second, .val (.int (0 : Int32)), .unset, .unset, .unset, .unset, .unset, .unset, .unset, .unset, .unset]) rfl) ?_
          refine own_go (fun _ => XS.iload X14.here hx rfl (hb hby at_199) rfl) ?_
          refine own_go (fun _ => XS.ifYes X14.here hx rfl (pc0 := 201) (pc' := 212) rfl (hb hby at_201) rfl (XT.i0_eq_t (by decide)) (by decide) (by decide)) ?_
          refine own_go (X14.ldc2Long hx hown (mvT hZ (hw _ (List.mem_of_getElem? (i := 75) rfl))) (g := (mkF m 212 #[.val (.int x0), .val (.int x1), .val (.int x2), .val (.int x3), .val (.long l1), .second, .val (.long l2), .second, .val (.long l3), .second, .val (.int m1), .val (.int m2), .val (.int m3), .val (.int d), .val (.ref a1), .val (.ref a13), .val (.int (0 : Int32)), .val (.int (1 : Int32)), .val (.int (1 : Int32)), .val (.long (-9223372036854775808 : Int64)), .second, .val (.int (0 : Int32)), .unset, .unset, .unset, .unset, .unset, .unset, .unset, .unset, .unset] [])) rfl (hb hby at_212)) ?_
          refine own_go (fun _ => XT.lstore X14.here hx rfl (hb hby at_215) rfl (l' := #[.val (.int x0), .val (.int x1), .val (.int x2), .val (.int x3), .val (.long l1), .second, .val (.long l2), .second, .val (.long l3), .second, .val (.int m1), .val (.int m2), .val (.int m3), .val (.int d), .val (.ref a1), .val (.ref a13), .val (.int (0 : Int32)), .val (.int (1 : Int32)), .val (.int (1 : Int32)), .val (.long (-9223372036854775808 : Int64)), .second, .val (.int (0 : Int32)), .val (.long (-9223372036854775808 : Int64)), .second, .unset, .unset, .unset, .unset, .unset, .unset, .unset]) rfl) ?_
          show own_Go p e below _ (T14.setTop (mkF m 217 #[.val (.int x0), .val (.int x1), .val (.int x2), .val (.int x3), .val (.long l1), .second, .val (.long l2), .second, .val (.long l3), .second, .val (.int m1), .val (.int m2), .val (.int m3), .val (.int d), .val (.ref a1), .val (.ref a13), .val (.int (0 : Int32)), .val (.int (1 : Int32)), .val (.int (1 : Int32)), .val (.long (-9223372036854775808 : Int64)), .second, .val (.int (0 : Int32)), .val (.long (-9223372036854775808 : Int64)), .second, .unset, .unset, .unset, .unset, .unset, .unset, .unset] []))
          refine own_go (fun _ => XS.iconst X14.here hx rfl (hb hby at_217)) ?_
          refine own_go (fun _ => XS.istore X14.here hx rfl (hb hby at_218) rfl (l' := #[.val (.int x0), .val (.int x1), .val (.int x2), .val (.int x3), .val (.long l1), .second, .val (.long l2), .second, .val (.long l3), .second, .val (.int m1), .val (.int m2), .val (.int m3), .val (.int d), .val (.ref a1), .val (.ref a13), .val (.int (0 : Int32)), .val (.int (1 : Int32)), .val (.int (1 : Int32)), .val (.long (-9223372036854775808 : Int64)), .second, .val (.int (0 : Int32)), .val (.long (-9223372036854775808 : Int64)), .second, .val (.int (0 : Int32)), .unset, .unset, .unset, .unset, .unset, .unset]) rfl) ?_
          refine own_go (fun _ => XS.iload X14.here hx rfl (hb hby at_220) rfl) ?_
          refine own_go (fun _ => XS.ifNo X14.here hx rfl (hb hby at_222) rfl (XT.i0_eq_f (by decide))) ?_
          refine own_go (X14.ldc2Long hx hown (mvT hZ (hw _ (List.mem_of_getElem? (i := 60) rfl))) (g := (mkF m 225 #[.val (.int x0), .val (.int x1), .val (.int x2), .val (.int x3), .val (.long l1), .second, .val (.long l2), .second, .val (.long l3), .second, .val (.int m1), .val (.int m2), .val (.int m3), .val (.int d), .val (.ref a1), .val (.ref a13), .val (.int (0 : Int32)), .val (.int (1 : Int32)), .val (.int (1 : Int32)), .val (.long (-9223372036854775808 : Int64)), .second, .val (.int (0 : Int32)), .val (.long (-9223372036854775808 : Int64)), .second, .val (.int (0 : Int32)), .unset, .unset, .unset, .unset, .unset, .unset] [])) rfl (hb hby at_225)) ?_
          refine own_go (fun _ => XT.lload X14.here hx rfl (hb hby at_228) rfl) ?_
          show own_Go p e below _ (T14.setTop (mkF m 230 #[.val (.int x0), .val (.int x1), .val (.int x2), .val (.int x3), .val (.long l1), .second, .val (.long l2), .second, .val (.long l3), .second, .val (.int m1), .val (.int m2), .val (.int m3), .val (.int d), .val (.ref a1), .val (.ref a13), .val (.int (0 : Int32)), .val (.int (1 : Int32)), .val (.int (1 : Int32)), .val (.long (-9223372036854775808 : Int64)), .second, .val (.int (0 : Int32)), .val (.long (-9223372036854775808 : Int64)), .second, .val (.int (0 : Int32)), .unset, .unset, .unset, .unset, .unset, .unset] [(.long l2), (.long (10 : Int64))]))
          refine own_go (fun _ => XT.ladd X14.here hx rfl (hb hby at_230) rfl) ?_
          refine own_go (fun _ => XT.lstore X14.here hx rfl (hb hby at_231) rfl (l' := #[.val (.int x0), .val (.int x1), .val (.int x2), .val (.int x3), .val (.long l1), .second, .val (.long l2), .second, .val (.long l3), .second, .val (.int m1), .val (.int m2), .val (.int m3), .val (.int d), .val (.ref a1), .val (.ref a13), .val (.int (0 : Int32)), .val (.int (1 : Int32)), .val (.int (1 : Int32)), .val (.long (-9223372036854775808 : Int64)), .second, .val (.int (0 : Int32)), .val (.long ((10 : Int64) + l2)), .second, .val (.int (0 : Int32)), .unset, .unset, .unset, .unset, .unset, .unset]) rfl) ?_
          refine own_go (fun _ => XS.iload X14.here hx rfl (hb hby at_233) rfl) ?_
          refine own_go (fun _ => XS.istore X14.here hx rfl (hb hby at_235) rfl (l' := #[.val (.int x0), .val (.int x1), .val (.int x2), .val (.int x3), .val (.long l1), .second, .val (.long l2), .second, .val (.long l3), .second, .val (.int m1), .val (.int m2), .val (.int m3), .val (.int d), .val (.ref a1), .val (.ref a13), .val (.int (0 : Int32)), .val (.int (1 : Int32)), .val (.int (1 : Int32)), .val (.long (-9223372036854775808 : Int64)), .second, .val (.int (0 : Int32)), .val (.long ((10 : Int64) + l2)), .second, .val (.int m2), .unset, .unset, .unset, .unset, .unset, .unset]) rfl) ?_
          refine own_go (fun _ => XS.goto X14.here hx rfl (pc0 := 237) (pc' := 257) rfl (hb hby at_237) (by decide) (by decide)) ?_
          refine own_go (X14.ldc2Long hx hown (mvT hZ (hw _ (List.mem_of_getElem? (i := 75) rfl))) (g := (mkF m 257 #[.val (.int x0), .val (.int x1), .val (.int x2), .val (.int x3), .val (.long l1), .second, .val (.long l2), .second, .val (.long l3), .second, .val (.int m1), .val (.int m2), .val (.int m3), .val (.int d), .val (.ref a1), .val (.ref a13), .val (.int (0 : Int32)), .val (.int (1 : Int32)), .val (.int (1 : Int32)), .val (.long (-9223372036854775808 : Int64)), .second, .val (.int (0 : Int32)), .val (.long ((10 : Int64) + l2)), .second, .val (.int m2), .unset, .unset, .unset, .unset, .unset, .unset] [])) rfl (hb hby at_257)) ?_
          show own_Go p e below _ (T14.setTop (mkF m 260 #[.val (.int x0), .val (.int x1), .val (.int x2), .val (.int x3), .val (.long l1), .second, .val (.long l2), .second, .val (.long l3), .second, .val (.int m1), .val (.int m2), .val (.int m3), .val (.int d), .val (.ref a1), .val (.ref a13), .val (.int (0 : Int32)), .val (.int (1 : Int32)), .val (.int (1 : Int32)), .val (.long (-9223372036854775808 : Int64)), .second, .val (.int (0 : Int32)), .val (.long ((10 : Int64) + l2)), .second, .val (.int m2), .unset, .unset, .unset, .unset, .unset, .unset] [(.long (-9223372036854775808 : Int64))]))
          refine own_go (fun _ => XT.lstore X14.here hx rfl (hb hby at_260) rfl (l' := #[.val (.int x0), .val (.int x1), .val (.int x2), .val (.int x3), .val (.long l1), .second, .val (.long l2), .second, .val (.long l3), .second, .val (.int m1), .val (.int m2), .val (.int m3), .val (.int d), .val (.ref a1), .val (.ref a13), .val (.int (0 : Int32)), .val (.int (1 : Int32)), .val (.int (1 : Int32)), .val (.long (-9223372036854775808 : Int64)), .second, .val (.int (0 : Int32)), .val (.long ((10 : Int64) + l2)), .second, .val (.int m2), .val (.long (-9223372036854775808 : Int64)), .second, .unset, .unset, .unset, .unset]) rfl) ?_
          refine own_go (fun _ => XS.iconst X14.here hx rfl (hb hby at_262)) ?_
          refine own_go (fun _ => XS.istore X14.here hx rfl (hb hby at_263) rfl (l' := #[.val (.int x0), .val (.int x1), .val (.int x2), .val (.int x3), .val (.long l1), .second, .val (.long l2), .second, .val (.long l3), .second, .val (.int m1), .val (.int m2), .val (.int m3), .val (.int d), .val (.ref a1), .val (.ref a13), .val (.int (0 : Int32)), .val (.int (1 : Int32)), .val (.int (1 : Int32)), .val (.long (-9223372036854775808 : Int64)), .second, .val (.int (0 : Int32)), .val (.long ((10 : Int64) + l2)), .second, .val (.int m2), .val (.long (-9223372036854775808 : Int64)), .second, .val (.int (0 : Int32)), .unset, .unset, .unset]) rfl) ?_
          refine own_go (fun _ => XS.iload X14.here hx rfl (hb hby at_265) rfl) ?_
          refine own_go (fun _ => XS.ifNo X14.here hx rfl (hb hby at_267) rfl (XT.i0_eq_f (by decide))) ?_
          refine own_go (X14.ldc2Long hx hown (mvT hZ (hw _ (List.mem_of_getElem? (i := 69) rfl))) (g := (mkF m 270 #[.val (.int x0), .val (.int x1), .val (.int x2), .val (.int x3), .val (.long l1), .second, .val (.long l2), .second, .val (.long l3), .second, .val (.int m1), .val (.int m2), .val (.int m3), .val (.int d), .val (.ref a1), .val (.ref a13), .val (.int (0 : Int32)), .val (.int (1 : Int32)), .val (.int (1 : Int32)), .val (.long (-9223372036854775808 : Int64)), .second, .val (.int (0 : Int32)), .val (.long ((10 : Int64) + l2)), .second, .val (.int m2), .val (.long (-9223372036854775808 : Int64)), .second, .val (.int (0 : Int32)), .unset, .unset, .unset] [])) rfl (hb hby at_270)) ?_
          show own_Go p e below _ (T14.setTop (mkF m 273 #[.val (.int x0), .val (.int x1), .val (.int x2), .val (.int x3), .val (.long l1), .second, .val (.long l2), .second, .val (.long l3), .second, .val (.int m1), .val (.int m2), .val (.int m3), .val (.int d), .val (.ref a1), .val (.ref a13), .val (.int (0 : Int32)), .val (.int (1 : Int32)), .val (.int (1 : Int32)), .val (.long (-9223372036854775808 : Int64)), .second, .val (.int (0 : Int32)), .val (.long ((10 : Int64) + l2)), .second, .val (.int m2), .val (.long (-9223372036854775808 : Int64)), .second, .val (.int (0 : Int32)), .unset, .unset, .unset] [(.long (20 : Int64))]))
          refine own_go (fun _ => XT.lload X14.here hx rfl (hb hby at_273) rfl) ?_
          refine own_go (fun _ => XT.ladd X14.here hx rfl (hb hby at_275) rfl) ?_
          refine own_go (fun _ => XT.lstore X14.here hx rfl (hb hby at_276) rfl (l' := #[.val (.int x0), .val (.int x1), .val (.int x2), .val (.int x3), .val (.long l1), .second, .val (.long l2), .second, .val (.long l3), .second, .val (.int m1), .val (.int m2), .val (.int m3), .val (.int d), .val (.ref a1), .val (.ref a13), .val (.int (0 : Int32)), .val (.int (1 : Int32)), .val (.int (1 : Int32)), .val (.long (-9223372036854775808 : Int64)), .second, .val (.int (0 : Int32)), .val (.long ((10 : Int64) + l2)), .second, .val (.int m2), .val (.long ((20 : Int64) + l3)), .second, .val (.int (0 : Int32)), .unset, .unset, .unset]) rfl) ?_
          refine own_go (fun _ => XS.iload X14.here hx rfl (hb hby at_278) rfl) ?_
          refine own_go (fun _ => XS.istore X14.here hx rfl (hb hby at_280) rfl (l' := #[.val (.int x0), .val (.int x1), .val (.int x2), .val (.int x3), .val (.long l1), .second, .val (.long l2), .second, .val (.long l3), .second, .val (.int m1), .val (.int m2), .val (.int m3), .val (.int d), .val (.ref a1), .val (.ref a13), .val (.int (0 : Int32)), .val (.int (1 : Int32)), .val (.int (1 : Int32)), .val (.long (-9223372036854775808 : Int64)), .second, .val (.int (0 : Int32)), .val (.long ((10 : Int64) + l2)), .second, .val (.int m2), .val (.long ((20 : Int64) + l3)), .second, .val (.int m3), .unset, .unset, .unset]) rfl) ?_
          refine own_go (fun _ => XS.goto X14.here hx rfl (pc0 := 282) (pc' := 322) rfl (hb hby at_282) (by decide) (by decide)) ?_
          show own_Go p e below _ (T14.setTop (mkF m 322 #[.val (.int x0), .val (.int x1), .val (.int x2), .val (.int x3), .val (.long l1), .second, .val (.long l2), .second, .val (.long l3), .second, .val (.int m1), .val (.int m2), .val (.int m3), .val (.int d), .val (.ref a1), .val (.ref a13), .val (.int (0 : Int32)), .val (.int (1 : Int32)), .val (.int (1 : Int32)), .val (.long (-9223372036854775808 : Int64)), .second, .val (.int (0 : Int32)), .val (.long ((10 : Int64) + l2)), .second, .val (.int m2), .val (.long ((20 : Int64) + l3)), .second, .val (.int m3), .unset, .unset, .unset] []))
          show own_Go p e below _ (T14.setTop (mkF m 322 #[.val (.int x0), .val (.int x1), .val (.int x2), .val (.int x3), .val (.long l1), .second, .val (.long l2), .second, .val (.long l3), .second, .val (.int m1), .val (.int m2), .val (.int m3), .val (.int d), .val (.ref a1), .val (.ref a13), .val (.int (0 : Int32)), .val (.int (1 : Int32)), .val (.int (1 : Int32)), .val (.long (-9223372036854775808 : Int64)), .second, .val (.int (0 : Int32)), .val (.long ((10 : Int64) + l2)), .second, .val (.int m2), .val (.long ((20 : Int64) + l3)), .second, .val (.int m3), .unset, .unset, .unset] []))
          exact G322 _ _ _ _ _ _ _ _ _ (by rw [hEE]; simp [own_keep, own_ans, hm0, hm1, hm2]) (by rw [hEE]; simp [own_keep, own_ans, hm0, hm1, hm2]) (by rw [hEE]; simp [own_keep, own_ans, hm0, hm1, hm2])
    · skip
      refine own_go (fun _ => XS.icmpNo X14.here hx rfl (hb hby at_153) rfl (XT.ii_eq_f hm0)) ?_
      refine own_go (fun _ => XS.iconst X14.here hx rfl (hb hby at_156)) ?_
      refine own_go (fun _ => XS.goto X14.here hx rfl (pc0 := 157) (pc' := 161) rfl (hb hby at_157) (by decide) (by decide)) ?_
      refine own_go (fun _ => XS.istore X14.here hx rfl (hb hby at_161) rfl (l' := #[.val (.int x0), .val (.int x1), .val (.int x2), .val (.int x3), .val (.long l1), .second, .val (.long l2), .second, .val (.long l3), .second, .val (.int m1), .val (.int m2), .val (.int m3), .val (.int d), .val (.ref a1), .val (.ref a13), .val (.int (1 : Int32)), .unset, .unset, .unset, .unset, .unset, .unset, .unset, .unset, .unset, .unset, .unset, .unset, .unset, .unset]) rfl) ?_
      refine own_go (fun _ => XS.iload X14.here hx rfl (hb hby at_163) rfl) ?_
      refine own_go (fun _ => XS.iload X14.here hx rfl (hb hby at_165) rfl) ?_
      show own_Go p e below _ (T14.setTop (mkF m 167 #[.val (.int x0), .val (.int x1), .val (.int x2), .val (.int x3), .val (.long l1), .second, .val (.long l2), .second, .val (.long l3), .second, .val (.int m1), .val (.int m2), .val (.int m3), .val (.int d), .val (.ref a1), .val (.ref a13), .val (.int (1 : Int32)), .unset, .unset, .unset, .unset, .unset, .unset, .unset, .unset, .unset, .unset, .unset, .unset, .unset, .unset] [(.int d), (.int m2)]))
      by_cases hm1 : m2 = d
      · skip
        refine own_go (fun _ => XS.icmpYes X14.here hx rfl (pc0 := 167) (pc' := 174) rfl (hb hby at_167) rfl (XT.ii_eq_t hm1) (by decide) (by decide)) ?_
        refine own_go (fun _ => XS.iconst X14.here hx rfl (hb hby at_174)) ?_
        refine own_go (fun _ => XS.istore X14.here hx rfl (hb hby at_175) rfl (l' := #[.val (.int x0), .val (.int x1), .val (.int x2), .val (.int x3), .val (.long l1), .second, .val (.long l2), .second, .val (.long l3), .second, .val (.int m1), .val (.int m2), .val (.int m3), .val (.int d), .val (.ref a1), .val (.ref a13), .val (.int (1 : Int32)), .val (.int (0 : Int32)), .unset, .unset, .unset, .unset, .unset, .unset, .unset, .unset, .unset, .unset, .unset, .unset, .unset]) rfl) ?_
        refine own_go (fun _ => XS.iload X14.here hx rfl (hb hby at_177) rfl) ?_
        refine own_go (fun _ => XS.iload X14.here hx rfl (hb hby at_179) rfl) ?_
        by_cases hm2 : m3 = d
        · skip
          refine own_go (fun _ => XS.icmpYes X14.here hx rfl (pc0 := 181) (pc' := 188) rfl (hb hby at_181) rfl (XT.ii_eq_t hm2) (by decide) (by decide)) ?_
          show own_Go p e below _ (T14.setTop (mkF m 188 #[.val (.int x0), .val (.int x1), .val (.int x2), .val (.int x3), .val (.long l1), .second, .val (.long l2), .second, .val (.long l3), .second, .val (.int m1), .val (.int m2), .val (.int m3), .val (.int d), .val (.ref a1), .val (.ref a13), .val (.int (1 : Int32)), .val (.int (0 : Int32)), .unset, .unset, .unset, .unset, .unset, .unset, .unset, .unset, .unset, .unset, .unset, .unset, .unset] []))
          refine own_go (fun _ => XS.iconst X14.here hx rfl (hb hby at_188)) ?_
          refine own_go (fun _ => XS.istore X14.here hx rfl (hb hby at_189) rfl (l' := #[.val (.int x0), .val (.int x1), .val (.int x2), .val (.int x3), .val (.long l1), .second, .val (.long l2), .second, .val (.long l3), .second, .val (.int m1), .val (.int m2), .val (.int m3), .val (.int d), .val (.ref a1), .val (.ref a13), .val (.int (1 : Int32)), .val (.int (0 : Int32)), .val (.int (0 : Int32)), .unset, .unset, .unset, .unset, .unset, .unset, .unset, .unset, .unset, .unset, .unset, .unset]) rfl) ?_
          refine own_go (X14.ldc2Long hx hown (mvT hZ (hw _ (List.mem_of_getElem? (i := 75) rfl))) (g := (mkF m 191 #[.val (.int x0), .val (.int x1), .val (.int x2), .val (.int x3), .val (.long l1), .second, .val (.long l2), .second, .val (.long l3), .second, .val (.int m1), .val (.int m2), .val (.int m3), .val (.int d), .val (.ref a1), .val (.ref a13), .val (.int (1 : Int32)), .val (.int (0 : Int32)), .val (.int (0 : Int32)), .unset, .unset, .unset, .unset, .unset, .unset, .unset, .unset, .unset, .unset, .unset, .unset] [])) rfl (hb hby at_191)) ?_
          refine own_go (fun _ => XT.lstore X14.here hx rfl (hb hby at_194) rfl (l' := #[.val (.int x0), .val (.int x1), .val (.int x2), .val (.int x3), .val (.long l1), .second, .val (.long l2), .second, .val (.long l3), .second, .val (.int m1), .val (.int m2), .val (.int m3), .val (.int d), .val (.ref a1), .val (.ref a13), .val (.int (1 : Int32)), .val (.int (0 : Int32)), .val (.int (0 : Int32)), .val (.long (-9223372036854775808 : Int64)), .second, .unset, .unset, .unset, .unset, .unset, .unset, .unset, .unset, .unset, .unset]) rfl) ?_
          refine own_go (fun _ => XS.iconst X14.here hx rfl (hb hby at_196)) ?_
          refine own_go (fun _ => XS.istore X14.here hx rfl (hb hby at_197) rfl (l' := #[.val (.int x0), .val (.int x1), .val (.int x2), .val (.int x3), .val (.long l1), .second, .val (.long l2), .second, .val (.long l3), .second, .val (.int m1), .val (.int m2), .val (.int m3), .val (.int d), .val (.ref a1), .val (.ref a13), .val (.int (1 : Int32)), .val (.int (0 : Int32)), .val (.int (0 : Int32)), .val (.long (-9223372036854775808 : Int64)), .second, .val (.int (0 : Int32)), .unset, .unset, .unset, .unset, .unset, .unset, .unset, .unset, .unset]) rfl) ?_
          show own_Go p e below _ (T14.setTop (mkF m 199 #[.val (.int x0), .val (.int x1), .val (.int x2), .val (.int x3), .val (.long l1), .second, .val (.long l2), .second, .val (.long l3), .second, .val (.int m1), .val (.int m2), .val (.int m3), .val (.int d), .val (.ref a1), .val (.ref a13), .val (.int (1 : Int32)), .val (.int (0 : Int32)), .val (.int (0 : Int32)), .val (.long (-9223372036854775808 : Int64)), .second, .val (.int (0 : Int32)), .unset, .unset, .unset, .unset, .unset, .unset, .unset, .unset, .unset] []))
          refine own_go (fun _ => XS.iload X14.here hx rfl (hb hby at_199) rfl) ?_
          refine own_go (fun _ => XS.ifNo X14.here hx rfl (hb hby at_201) rfl (XT.i0_eq_f (by decide))) ?_
          refine own_go (fun _ => XT.lload X14.here hx rfl (hb hby at_204) rfl) ?_
          refine own_go (fun _ => XT.lstore X14.here hx rfl (hb hby at_206) rfl (l' := #[.val (.int x0), .val (.int x1), .val (.int x2), .val (.int x3), .val (.long l1), .second, .val (.long l2), .second, .val (.long l3), .second, .val (.int m1), .val (.int m2), .val (.int m3), .val (.int d), .val (.ref a1), .val (.ref a13), .val (.int (1 : Int32)), .val (.int (0 : Int32)), .val (.int (0 : Int32)), .val (.long l1), .second, .val (.int (0 : Int32)), .unset, .unset, .unset, .unset, .unset, .unset, .unset, .unset, .unset]) rfl) ?_
          refine own_go (fun _ => XS.iload X14.here hx rfl (hb hby at_208) rfl) ?_
          refine own_go (fun _ => XS.istore X14.here hx rfl (hb hby at_210) rfl (l' := #[.val (.int x0), .val (.int x1), .val (.int x2), .val (.int x3), .val (.long l1), .second, .val (.long l2), .second, .val (.long l3), .second, .val (.int m1), .val (.int m2), .val (.int m3), .val (.int d), .val (.ref a1), .val (.ref a13), .val (.int (1 : Int32)), .val (.int (0 : Int32)), .val (.int (0 : Int32)), .val (.long l1), .second, .val (.int m1), .unset, .unset, .unset, .unset, .unset, .unset, .unset, .unset, .unset]) rfl) ?_
          show own_Go p e below _ (T14.setTop (mkF m 212 #[.val (.int x0), .val (.int x1), .val (.int x2), .val (.int x3), .val (.long l1), .second, .val (.long l2), .second, .val (.long l3), .second, .val (.int m1), .val (.int m2), .val (.int m3), .val (.int d), .val (.ref a1), .val (.ref a13), .val (.int (1 : Int32)), .val (.int (0 : Int32)), .val (.int (0 : Int32)), .val (.long l1), .second, .val (.int m1), .unset, .unset, .unset, .unset, .unset, .unset, .unset, .unset, .unset] []))
          refine own_go (X14.ldc2Long hx hown (mvT hZ (hw _ (List.mem_of_getElem? (i := 75) rfl))) (g := (mkF m 212 #[.val (.int x0), .val (.int x1), .val (.int x2), .val (.int x3), .val (.long l1), .second, .val (.long l2), .second, .val (.long l3), .second, .val (.int m1), .val (.int m2), .val (.int m3), .val (.int d), .val (.ref a1), .val (.ref a13), .val (.int (1 : Int32)), .val (.int (0 : Int32)), .val (.int (0 : Int32)), .val (.long l1), .second, .val (.int m1), .unset, .unset, .unset, .unset, .unset, .unset, .unset, .unset, .unset] [])) rfl (hb hby at_212)) ?_
          refine own_go (fun _ => XT.lstore X14.here hx rfl (hb hby at_215) rfl (l' := #[.val (.int x0), .val (.int x1), .val (.int x2), .val (.int x3), .val (.long l1), .second, .val (.long l2), .second, .val (.long l3), .second, .val (.int m1), .val (.int m2), .val (.int m3), .val (.int d), .val (.ref a1), .val (.ref a13), .val (.int (1 : Int32)), .val (.int (0 : Int32)), .val (.int (0 : Int32)), .val (.long l1), .second, .val (.int m1), .val (.long (-9223372036854775808 : Int64)), .second, .unset, .unset, .unset, .unset, .unset, .unset, .unset]) rfl) ?_
          refine own_go (fun _ => XS.iconst X14.here hx rfl (hb hby at_217)) ?_
          refine own_go (fun _ => XS.istore X14.here hx rfl (hb hby at_218) rfl (l' := #[.val (.int x0), .val (.int x1), .val (.int x2), .val (.int x3), .val (.long l1), .second, .val (.long l2), .second, .val (.long l3), .second, .val (.int m1), .val (.int m2), .val (.int m3), .val (.int d), .val (.ref a1), .val (.ref a13), .val (.int (1 : Int32)), .val (.int (0 : Int32)), .val (.int (0 : Int32)), .val (.long l1), .second, .val (.int m1), .val (.long (-9223372036854775808 : Int64)), .second, .val (.int (0 : Int32)), .unset, .unset, .unset, .unset, .unset, .unset]) rfl) ?_
          refine own_go (fun _ => XS.iload X14.here hx rfl (hb hby at_220) rfl) ?_
          refine own_go (fun _ => XS.ifYes X14.here hx rfl (pc0 := 222) (pc' := 240) rfl (hb hby at_222) rfl (XT.i0_eq_t (by decide)) (by decide) (by decide)) ?_
          show own_Go p e below _ (T14.setTop (mkF m 240 #[.val (.int x0), .val (.int x1), .val (.int x2), .val (.int x3), .val (.long l1), .second, .val (.long l2), .second, .val (.long l3), .second, .val (.int m1), .val (.int m2), .val (.int m3), .val (.int d), .val (.ref a1), .val (.ref a13), .val (.int (1 : Int32)), .val (.int (0 : Int32)), .val (.int (0 : Int32)), .val (.long l1), .second, .val (.int m1), .val (.long (-9223372036854775808 : Int64)), .second, .val (.int (0 : Int32)), .unset, .unset, .unset, .unset, .unset, .unset] []))
          refine own_go (fun _ => XS.iload X14.here hx rfl (hb hby at_240) rfl) ?_
          refine own_go (fun _ => XS.ifNo X14.here hx rfl (hb hby at_242) rfl (XT.i0_eq_f (by decide))) ?_
          refine own_go (X14.ldc2Long hx hown (mvT hZ (hw _ (List.mem_of_getElem? (i := 60) rfl))) (g := (mkF m 245 #[.val (.int x0), .val (.int x1), .val (.int x2), .val (.int x3), .val (.long l1), .second, .val (.long l2), .second, .val (.long l3), .second, .val (.int m1), .val (.int m2), .val (.int m3), .val (.int d), .val (.ref a1), .val (.ref a13), .val (.int (1 : Int32)), .val (.int (0 : Int32)), .val (.int (0 : Int32)), .val (.long l1), .second, .val (.int m1), .val (.long (-9223372036854775808 : Int64)), .second, .val (.int (0 : Int32)), .unset, .unset, .unset, .unset, .unset, .unset] [])) rfl (hb hby at_245)) ?_
          refine own_go (fun _ => XT.lload X14.here hx rfl (hb hby at_248) rfl) ?_
          refine own_go (fun _ => XT.ladd X14.here hx rfl (hb hby at_250) rfl) ?_
          refine own_go (fun _ => XT.lstore X14.here hx rfl (hb hby at_251) rfl (l' := #[.val (.int x0), .val (.int x1), .val (.int x2), .val (.int x3), .val (.long l1), .second, .val (.long l2), .second, .val (.long l3), .second, .val (.int m1), .val (.int m2), .val (.int m3), .val (.int d), .val (.ref a1), .val (.ref a13), .val (.int (1 : Int32)), .val (.int (0 : Int32)), .val (.int (0 : Int32)), .val (.long l1), .second, .val (.int m1), .val (.long ((10 : Int64) + l1)), .second, .val (.int (0 : Int32)), .unset, .unset, .unset, .unset, .unset, .unset]) rfl) ?_
          show own_Go p e below _ (T14.setTop (mkF m 253 #[.val (.int x0), .val (.int x1), .val (.int x2), .val (.int x3), .val (.long l1), .second, .val (.long l2), .second, .val (.long l3), .second, .val (.int m1), .val (.int m2), .val (.int m3), .val (.int d), .val (.ref a1), .val (.ref a13), .val (.int (1 : Int32)), .val (.int (0 : Int32)), .val (.int (0 : Int32)), .val (.long l1), .second, .val (.int m1), .val (.long ((10 : Int64) + l1)), .second, .val (.int (0 : Int32)), .unset, .unset, .unset, .unset, .unset, .unset] []))
          refine own_go (fun _ => XS.iload X14.here hx rfl (hb hby at_253) rfl) ?_
          refine own_go (fun _ => XS.istore X14.here hx rfl (hb hby at_255) rfl (l' := #[.val (.int x0), .val (.int x1), .val (.int x2), .val (.int x3), .val (.long l1), .second, .val (.long l2), .second, .val (.long l3), .second, .val (.int m1), .val (.int m2), .val (.int m3), .val (.int d), .val (.ref a1), .val (.ref a13), .val (.int (1 : Int32)), .val (.int (0 : Int32)), .val (.int (0 : Int32)), .val (.long l1), .second, .val (.int m1), .val (.long ((10 : Int64) + l1)), .second, .val (.int m1), .unset, .unset, .unset, .unset, .unset, .unset]) rfl) ?_
          refine own_go (X14.ldc2Long hx hown (mvT hZ (hw _ (List.mem_of_getElem? (i := 75) rfl))) (g := (mkF m 257 #[.val (.int x0), .val (.int x1), .val (.int x2), .val (.int x3), .val (.long l1), .second, .val (.long l2), .second, .val (.long l3), .second, .val (.int m1), .val (.int m2), .val (.int m3), .val (.int d), .val (.ref a1), .val (.ref a13), .val (.int (1 : Int32)), .val (.int (0 : Int32)), .val (.int (0 : Int32)), .val (.long l1), .second, .val (.int m1), .val (.long ((10 : Int64) + l1)), .second, .val (.int m1), .unset, .unset, .unset, .unset, .unset, .unset] [])) rfl (hb hby at_257)) ?_
          refine own_go (fun _ => XT.lstore X14.here hx rfl (hb hby at_260) rfl (l' := #[.val (.int x0), .val (.int x1), .val (.int x2), .val (.int x3), .val (.long l1), .second, .val (.long l2), .second, .val (.long l3), .second, .val (.int m1), .val (.int m2), .val (.int m3), .val (.int d), .val (.ref a1), .val (.ref a13), .val (.int (1 : Int32)), .val (.int (0 : Int32)), .val (.int (0 : Int32)), .val (.long l1), .second, .val (.int m1), .val (.long ((10 : Int64) + l1)), .second, .val (.int m1), .val (.long (-9223372036854775808 : Int64)), .second, .unset, .unset, .unset, .unset]) rfl) ?_
          refine own_go (fun _ => XS.iconst X14.here hx rfl (hb hby at_262)) ?_
          refine own_go (fun _ => XS.istore X14.here hx rfl (hb hby at_263) rfl (l' := #[.val (.int x0), .val (.int x1), .val (.int x2), .val (.int x3), .val (.long l1), .second, .val (.long l2), .second, .val (.long l3), .second, .val (.int m1), .val (.int m2), .val (.int m3), .val (.int d), .val (.ref a1), .val (.ref a13), .val (.int (1 : Int32)), .val (.int (0 : Int32)), .val (.int (0 : Int32)), .val (.long l1), .second, .val (.int m1), .val (.long ((10 : Int64) + l1)), .second, .val (.int m1), .val (.long (-9223372036854775808 : Int64)), .second, .val (.int (0 : Int32)), .unset, .unset, .unset]) rfl) ?_
          show own_Go p e below _ (T14.setTop (mkF m 265 #[.val (.int x0), .val (.int x1), .val (.int x2), .val (.int x3), .val (.long l1), .second, .val (.long l2), .second, .val (.long l3), .second, .val (.int m1), .val (.int m2), .val (.int m3), .val (.int d), .val (.ref a1), .val (.ref a13), .val (.int (1 : Int32)), .val (.int (0 : Int32)), .val (.int (0 : Int32)), .val (.long l1), .second, .val (.int m1), .val (.long ((10 : Int64) + l1)), .second, .val (.int m1), .val (.long (-9223372036854775808 : Int64)), .second, .val (.int (0 : Int32)), .unset, .unset, .unset] []))
          refine own_go (fun _ => XS.iload X14.here hx rfl (hb hby at_265) rfl) ?_
          refine own_go (fun _ => XS.ifYes X14.here hx rfl (pc0 := 267) (pc' := 285) rfl (hb hby at_267) rfl (XT.i0_eq_t (by decide)) (by decide) (by decide)) ?_
          refine own_go (fun _ => XS.iload X14.here hx rfl (hb hby at_285) rfl) ?_
          refine own_go (fun _ => XS.ifYes X14.here hx rfl (pc0 := 287) (pc' := 305) rfl (hb hby at_287) rfl (XT.i0_eq_t (by decide)) (by decide) (by decide)) ?_
          refine own_go (fun _ => XS.iload X14.here hx rfl (hb hby at_305) rfl) ?_
          refine own_go (fun _ => XS.ifNo X14.here hx rfl (hb hby at_307) rfl (XT.i0_eq_f (by decide))) ?_
          show own_Go p e below _ (T14.setTop (mkF m 310 #[.val (.int x0), .val (.int x1), .val (.int x2), .val (.int x3), .val (.long l1), .second, .val (.long l2), .second, .val (.long l3), .second, .val (.int m1), .val (.int m2), .val (.int m3), .val (.int d), .val (.ref a1), .val (.ref a13), .val (.int (1 : Int32)), .val (.int (0 : Int32)), .val (.int (0 : Int32)), .val (.long l1), .second, .val (.int m1), .val (.long ((10 : Int64) + l1)), .second, .val (.int m1), .val (.long (-9223372036854775808 : Int64)), .second, .val (.int (0 : Int32)), .unset, .unset, .unset] []))
          refine own_go (X14.ldc2Long hx hown (mvT hZ (hw _ (List.mem_of_getElem? (i := 69) rfl))) (g := (mkF m 310 #[.val (.int x0), .val (.int x1), .val (.int x2), .val (.int x3), .val (.long l1), .second, .val (.long l2), .second, .val (.long l3), .second, .val (.int m1), .val (.int m2), .val (.int m3), .val (.int d), .val (.ref a1), .val (.ref a13), .val (.int (1 : Int32)), .val (.int (0 : Int32)), .val (.int (0 : Int32)), .val (.long l1), .second, .val (.int m1), .val (.long ((10 : Int64) + l1)), .second, .val (.int m1), .val (.long (-9223372036854775808 : Int64)), .second, .val (.int (0 : Int32)), .unset, .unset, .unset] [])) rfl (hb hby at_310)) ?_
          refine own_go (fun _ => XT.lload X14.here hx rfl (hb hby at_313) rfl) ?_
          refine own_go (fun _ => XT.ladd X14.here hx rfl (hb hby at_315) rfl) ?_
          refine own_go (fun _ => XT.lstore X14.here hx rfl (hb hby at_316) rfl (l' := #[.val (.int x0), .val (.int x1), .val (.int x2), .val (.int x3), .val (.long l1), .second, .val (.long l2), .second, .val (.long l3), .second, .val (.int m1), .val (.int m2), .val (.int m3), .val (.int d), .val (.ref a1), .val (.ref a13), .val (.int (1 : Int32)), .val (.int (0 : Int32)), .val (.int (0 : Int32)), .val (.long l1), .second, .val (.int m1), .val (.long ((10 : Int64) + l1)), .second, .val (.int m1), .val (.long ((20 : Int64) + l1)), .second, .val (.int (0 : Int32)), .unset, .unset, .unset]) rfl) ?_
          refine own_go (fun _ => XS.iload X14.here hx rfl (hb hby at_318) rfl) ?_
          refine own_go (fun _ => XS.istore X14.here hx rfl (hb hby at_320) rfl (l' := #[.val (.int x0), .val (.int x1), .val (.int x2), .val (.int x3), .val (.long l1), .second, .val (.long l2), .second, .val (.long l3), .second, .val (.int m1), .val (.int m2), .val (.int m3), .val (.int d), .val (.ref a1), .val (.ref a13), .val (.int (1 : Int32)), .val (.int (0 : Int32)), .val (.int (0 : Int32)), .val (.long l1), .second, .val (.int m1), .val (.long ((10 : Int64) + l1)), .second, .val (.int m1), .val (.long ((20 : Int64) + l1)), .second, .val (.int m1), .unset, .unset, .unset]) rfl) ?_
          show own_Go p e below _ (T14.setTop (mkF m 322 #[.val (.int x0), .val (.int x1), .val (.int x2), .val (.int x3), .val (.long l1), .second, .val (.long l2), .second, .val (.long l3), .second, .val (.int m1), .val (.int m2), .val (.int m3), .val (.int d), .val (.ref a1), .val (.ref a13), .val (.int (1 : Int32)), .val (.int (0 : Int32)), .val (.int (0 : Int32)), .val (.long l1), .second, .val (.int m1), .val (.long ((10 : Int64) + l1)), .second, .val (.int m1), .val (.long ((20 : Int64) + l1)), .second, .val (.int m1), .unset, .unset, .unset] []))
          show own_Go p e below _ (T14.setTop (mkF m 322 #[.val (.int x0), .val (.int x1), .val (.int x2), .val (.int x3), .val (.long l1), .second, .val (.long l2), .second, .val (.long l3), .second, .val (.int m1), .val (.int m2), .val (.int m3), .val (.int d), .val (.ref a1), .val (.ref a13), .val (.int (1 : Int32)), .val (.int (0 : Int32)), .val (.int (0 : Int32)), .val (.long l1), .second, .val (.int m1), .val (.long ((10 : Int64) + l1)), .second, .val (.int m1), .val (.long ((20 : Int64) + l1)), .second, .val (.int m1), .unset, .unset, .unset] []))
          exact G322 _ _ _ _ _ _ _ _ _ (by rw [hEE]; simp [own_keep, own_ans, hm0, hm1, hm2]) (by rw [hEE]; simp [own_keep, own_ans, hm0, hm1, hm2]) (by rw [hEE]; simp [own_keep, own_ans, hm0, hm1, hm2])
        · skip
          refine own_go (fun _ => XS.icmpNo X14.here hx rfl (hb hby at_181) rfl (XT.ii_eq_f hm2)) ?_
          refine own_go (fun _ => XS.iconst X14.here hx rfl (hb hby at_184)) ?_
          refine own_go (fun _ => XS.goto X14.here hx rfl (pc0 := 185) (pc' := 189) rfl (hb hby at_185) (by decide) (by decide)) ?_
          refine own_go (fun _ => XS.istore X14.here hx rfl (hb hby at_189) rfl (l' := #[.val (.int x0), .val (.int x1), .val (.int x2), .val (.int x3), .val (.long l1), .second, .val (.long l2), .second, .val (.long l3), .second, .val (.int m1), .val (.int m2), .val (.int m3), .val (.int d), .val (.ref a1), .val (.ref a13), .val (.int (1 : Int32)), .val (.int (0 : Int32)), .val (.int (1 : Int32)), .unset, .unset, .unset, .unset, .unset, .unset, .unset, .unset, .unset, .unset, .unset, .unset]) rfl) ?_
          refine own_go (X14.ldc2Long hx hown (mvT hZ (hw _ (List.mem_of_getElem? (i := 75) rfl))) (g := (mkF m 191 #[.val (.int x0), .val (.int x1), .val (.int x2), .val (.int x3), .val (.long l1), .second, .val (.long l2), .second, .val (.long l3), .second, .val (.int m1), .val (.int m2), .val (.int m3), .val (.int d), .val (.ref a1), .val (.ref a13), .val (.int (1 : Int32)), .val (.int (0 : Int32)), .val (.int (1 : Int32)), .unset, .unset, .unset, .unset, .unset, .unset, .unset, .unset, .unset, .unset, .unset, .unset] [])) rfl (hb hby at_191)) ?_
          refine own_go (fun _ => XT.lstore X14.here hx rfl (hb hby at_194) rfl (l' := #[.val (.int x0), .val (.int x1), .val (.int x2), .val (.int x3), .val (.long l1), .second, .val (.long l2), .second, .val (.long l3), .second, .val (.int m1), .val (.int m2), .val (.int m3), .val (.int d), .val (.ref a1), .val (.ref a13), .val (.int (1 : Int32)), .val (.int (0 : Int32)), .val (.int (1 : Int32)), .val (.long (-9223372036854775808 : Int64)), .second, .unset, .unset, .unset, .unset, .unset, .unset, .unset, .unset, .unset, .unset]) rfl) ?_
          show own_Go p e below _ (T14.setTop (mkF m 196 #[.val (.int x0), .val (.int x1), .val (.int x2), .val (.int x3), .val (.long l1), .second, .val (.long l2), .second, .val (.long l3), .second, .val (.int m1), .val (.int m2), .val (.int m3), .val (.int d), .val (.ref a1), .val (.ref a13), .val (.int (1 : Int32)), .val (.int (0 : Int32)), .val (.int (1 : Int32)), .val (.long (-9223372036854775808 : Int64)), .second, .unset, .unset, .unset, .unset, .unset, .unset, .unset, .unset, .unset, .unset] []))
          refine own_go (fun _ => XS.iconst X14.here hx rfl (hb hby at_196)) ?_
          refine own_go (fun _ => XS.istore X14.here hx rfl (hb hby at_197) rfl (l' := #[.val (.int x0), .val (.int x1), .val (.int x2), .val (.int x3), .val (.long l1), .second, .val (.long l2), .second, .val (.long l3), .second, .val (.int m1), .val (.int m2), .val (.int m3), .val (.int d), .val (.ref a1), .val (.ref a13), .val (.int (1 : Int32)), .val (.int (0 : Int32)), .val (.int (1 : Int32)), .val (.long (-9223372036854775808 : Int64)), .second, .val (.int (0 : Int32)), .unset, .unset, .unset, .unset, .unset, .unset, .unset, .unset, .unset]) rfl) ?_
          refine own_go (fun _ => XS.iload X14.here hx rfl (hb hby at_199) rfl) ?_
          refine own_go (fun _ => XS.ifNo X14.here hx rfl (hb hby at_201) rfl (XT.i0_eq_f (by decide))) ?_
          refine own_go (fun _ => XT.lload X14.here hx rfl (hb hby at_204) rfl) ?_
          refine own_go (fun _ => XT.lstore X14.here hx rfl (hb hby at_206) rfl (l' := #[.val (.int x0), .val (.int x1), .val (.int x2), .val (.int x3), .val (.long l1), .second, .val (.long l2), .second, .val (.long l3), .second, .val (.int m1), .val (.int m2), .val (.int m3), .val (.int d), .val (.ref a1), .val (.ref a13), .val (.int (1 : Int32)), .val (.int (0 : Int32)), .val (.int (1 : Int32)), .val (.long l1), .second, .val (.int (0 : Int32)), .unset, .unset, .unset, .unset, .unset, .unset, .unset, .unset, .unset]) rfl) ?_
          show own_Go p e below _ (T14.setTop (mkF m 208 #[.val (.int x0), .val (.int x1), .val (.int x2), .val (.int x3), .val (.long l1), .second, .val (.long l2), .second, .val (.long l3), .second, .val (.int m1), .val (.int m2), .val (.int m3), .val (.int d), .val (.ref a1), .val (.ref a13), .val (.int (1 : Int32)), .val (.int (0 : Int32)), .val (.int (1 : Int32)), .val (.long l1), .second, .val (.int (0 : Int32)), .unset, .unset, .unset, .unset, .unset, .unset, .unset, .unset, .unset] []))
          refine own_go (fun _ => XS.iload X14.here hx rfl (hb hby at_208) rfl) ?_
          refine own_go (fun _ => XS.istore X14.here hx rfl (hb hby at_210) rfl (l' := #[.val (.int x0), .val (.int x1), .val (.int x2), .val (.int x3), .val (.long l1), .second, .val (.long l2), .second, .val (.long l3), .second, .val (.int m1), .val (.int m2), .val (.int m3), .val (.int d), .val (.ref a1), .val (.ref a13), .val (.int (1 : Int32)), .val (.int (0 : Int32)), .val (.int (1 : Int32)), .val (.long l1), .second, .val (.int m1), .unset, .unset, .unset, .unset, .unset, .unset, .unset, .unset, .unset]) rfl) ?_
          refine own_go (X14.ldc2Long hx hown (mvT hZ (hw _ (List.mem_of_getElem? (i := 75) rfl))) (g := (mkF m 212 #[.val (.int x0), .val (.int x1), .val (.int x2), .val (.int x3), .val (.long l1), .second, .val (.long l2), .second, .val (.long l3), .second, .val (.int m1), .val (.int m2), .val (.int m3), .val (.int d), .val (.ref a1), .val (.ref a13), .val (.int (1 : Int32)), .val (.int (0 : Int32)), .val (.int (1 : Int32)), .val (.long l1), .second, .val (.int m1), .unset, .unset, .unset, .unset, .unset, .unset, .unset, .unset, .unset] [])) rfl (hb hby at_212)) ?_
          refine own_go (fun _ => XT.lstore X14.here hx rfl (hb hby at_215) rfl (l' := #[.val (.int x0), .val (.int x1), .val (.int x2), .val (.int x3), .val (.long l1), .second, .val (.long l2), .second, .val (.long l3), .second, .val (.int m1), .val (.int m2), .val (.int m3), .val (.int d), .val (.ref a1), .val (.ref a13), .val (.int (1 : Int32)), .val (.int (0 : Int32)), .val (.int (1 : Int32)), .val (.long l1), .second, .val (.int m1), .val (.long (-9223372036854775808 : Int64)), .second, .unset, .unset, .unset, .unset, .unset, .unset, .unset]) rfl) ?_
          refine own_go (fun _ => XS.iconst X14.here hx rfl (hb hby at_217)) ?_
          refine own_go (fun _ => XS.istore X14.here hx rfl (hb hby at_218) rfl (l' := #[.val (.int x0), .val (.int x1), .val (.int x2), .val (.int x3), .val (.long l1), .second, .val (.long l2), .second, .val (.long l3), .second, .val (.int m1), .val (.int m2), .val (.int m3), .val (.int d), .val (.ref a1), .val (.ref a13), .val (.int (1 : Int32)), .val (.int (0 : Int32)), .val (.int (1 : Int32)), .val (.long l1), .second, .val (.int m1), .val (.long (-9223372036854775808 : Int64)), .second, .val (.int (0 : Int32)), .unset, .unset, .unset, .unset, .unset, .unset]) rfl) ?_
          show own_Go p e below _ (T14.setTop (mkF m 220 #[.val (.int x0), .val (.int x1), .val (.int x2), .val (.int x3), .val (.long l1), .second, .val (.long l2), .second, .val (.long l3), .second, .val (.int m1), .val (.int m2), .val (.int m3), .val (.int d), .val (.ref a1), .val (.ref a13), .val (.int (1 : Int32)), .val (.int (0 : Int32)), .val (.int (1 : Int32)), .val (.long l1), .second, .val (.int m1), .val (.long (-9223372036854775808 : Int64)), .second, .val (.int (0 : Int32)), .unset, .unset, .unset, .unset, .unset, .unset] []))
          refine own_go (fun _ => XS.iload X14.here hx rfl (hb hby at_220) rfl) ?_
          refine own_go (fun _ => XS.ifYes X14.here hx rfl (pc0 := 222) (pc' := 240) rfl (hb hby at_222) rfl (XT.i0_eq_t (by decide)) (by decide) (by decide)) ?_
          refine own_go (fun _ => XS.iload X14.here hx rfl (hb hby at_240) rfl) ?_
          refine own_go (fun _ => XS.ifNo X14.here hx rfl (hb hby at_242) rfl (XT.i0_eq_f (by decide))) ?_
          refine own_go (X14.ldc2Long hx hown (mvT hZ (hw _ (List.mem_of_getElem? (i := 60) rfl))) (g := (mkF m 245 #[.val (.int x0), .val (.int x1), .val (.int x2), .val (.int x3), .val (.long l1), .second, .val (.long l2), .second, .val (.long l3), .second, .val (.int m1), .val (.int m2), .val (.int m3), .val (.int d), .val (.ref a1), .val (.ref a13), .val (.int (1 : Int32)), .val (.int (0 : Int32)), .val (.int (1 : Int32)), .val (.long l1), .second, .val (.int m1), .val (.long (-9223372036854775808 : Int64)), .second, .val (.int (0 : Int32)), .unset, .unset, .unset, .unset, .unset, .unset] [])) rfl (hb hby at_245)) ?_
          refine own_go (fun _ => XT.lload X14.here hx rfl (hb hby at_248) rfl) ?_
          show own_Go p e below _ (T14.setTop (mkF m 250 #[.val (.int x0), .val (.int x1), .val (.int x2), .val (.int x3), .val (.long l1), .second, .val (.long l2), .second, .val (.long l3), .second, .val (.int m1), .val (.int m2), .val (.int m3), .val (.int d), .val (.ref a1), .val (.ref a13), .val (.int (1 : Int32)), .val (.int (0 : Int32)), .val (.int (1 : Int32)), .val (.long l1), .second, .val (.int m1), .val (.long (-9223372036854775808 : Int64)), .second, .val (.int (0 : Int32)), .unset, .unset, .unset, .unset, .unset, .unset] [(.long l1), (.long (10 : Int64))]))
          refine own_go (fun _ => XT.ladd X14.here hx rfl (hb hby at_250) rfl) ?_
          refine own_go (fun _ => XT.lstore X14.here hx rfl (hb hby at_251) rfl (l' := #[.val (.int x0), .val (.int x1), .val (.int x2), .val (.int x3), .val (.long l1), .second, .val (.long l2), .second, .val (.long l3), .second, .val (.int m1), .val (.int m2), .val (.int m3), .val (.int d), .val (.ref a1), .val (.ref a13), .val (.int (1 : Int32)), .val (.int (0 : Int32)), .val (.int (1 : Int32)), .val (.long l1), .second, .val (.int m1), .val (.long ((10 : Int64) + l1)), .second, .val (.int (0 : Int32)), .unset, .unset, .unset, .unset, .unset, .unset]) rfl) ?_
          refine own_go (fun _ => XS.iload X14.here hx rfl (hb hby at_253) rfl) ?_
          refine own_go (fun _ => XS.istore X14.here hx rfl (hb hby at_255) rfl (l' := #[.val (.int x0), .val (.int x1), .val (.int x2), .val (.int x3), .val (.long l1), .second, .val (.long l2), .second, .val (.long l3), .second, .val (.int m1), .val (.int m2), .val (.int m3), .val (.int d), .val (.ref a1), .val (.ref a13), .val (.int (1 : Int32)), .val (.int (0 : Int32)), .val (.int (1 : Int32)), .val (.long l1), .second, .val (.int m1), .val (.long ((10 : Int64) + l1)), .second, .val (.int m1), .unset, .unset, .unset, .unset, .unset, .unset]) rfl) ?_
          refine own_go (X14.ldc2Long hx hown (mvT hZ (hw _ (List.mem_of_getElem? (i := 75) rfl))) (g := (mkF m 257 #[.val (.int x0), .val (.int x1), .val (.int x2), .val (.int x3), .val (.long l1), .second, .val (.long l2), .second, .val (.long l3), .second, .val (.int m1), .val (.int m2), .val (.int m3), .val (.int d), .val (.ref a1), .val (.ref a13), .val (.int (1 : Int32)), .val (.int (0 : Int32)), .val (.int (1 : Int32)), .val (.long l1), .second, .val (.int m1), .val (.long ((10 : Int64) + l1)), .second, .val (.int m1), .unset, .unset, .unset, .unset, .unset, .unset] [])) rfl (hb hby at_257)) ?_
          refine own_go (fun _ => XT.lstore X14.here hx rfl (hb hby at_260) rfl (l' := #[.val (.int x0), .val (.int x1), .val (.int x2), .val (.int x3), .val (.long l1), .second, .val (.long l2), .second, .val (.long l3), .second, .val (.int m1), .val (.int m2), .val (.int m3), .val (.int d), .val (.ref a1), .val (.ref a13), .val (.int (1 : Int32)), .val (.int (0 : Int32)), .val (.int (1 : Int32)), .val (.long l1), .second, .val (.int m1), .val (.long ((10 : Int64) + l1)), .second, .val (.int m1), .val (.long (-9223372036854775808 : Int64)), .second, .unset, .unset, .unset, .unset]) rfl) ?_
          show own_Go p e below _ (T14.setTop (mkF m 262 #[.val (.int x0), .val (.int x1), .val (.int x2), .val (.int x3), .val (.long l1), .second, .val (.long l2), .second, .val (.long l3), .second, .val (.int m1), .val (.int m2), .val (.int m3), .val (.int d), .val (.ref a1), .val (.ref a13), .val (.int (1 : Int32)), .val (.int (0 : Int32)), .val (.int (1 : Int32)), .val (.long l1), .second, .val (.int m1), .val (.long ((10 : Int64) + l1)), .second, .val (.int m1), .val (.long (-9223372036854775808 : Int64)), .second, .unset, .unset, .unset, .unset] []))
          refine own_go (fun _ => XS.iconst X14.here hx rfl (hb hby at_262)) ?_
          refine own_go (fun _ => XS.istore X14.here hx rfl (hb hby at_263) rfl (l' := #[.val (.int x0), .val (.int x1), .val (.int x2), .val (.int x3), .val (.long l1), .second, .val (.long l2), .second, .val (.long l3), .second, .val (.int m1), .val (.int m2), .val (.int m3), .val (.int d), .val (.ref a1), .val (.ref a13), .val (.int (1 : Int32)), .val (.int (0 : Int32)), .val (.int (1 : Int32)), .val (.long l1), .second, .val (.int m1), .val (.long ((10 : Int64) + l1)), .second, .val (.int m1), .val (.long (-9223372036854775808 : Int64)), .second, .val (.int (0 : Int32)), .unset, .unset, .unset]) rfl) ?_
          refine own_go (fun _ => XS.iload X14.here hx rfl (hb hby at_265) rfl) ?_
          refine own_go (fun _ => XS.ifNo X14.here hx rfl (hb hby at_267) rfl (XT.i0_eq_f (by decide))) ?_
          refine own_go (X14.ldc2Long hx hown (mvT hZ (hw _ (List.mem_of_getElem? (i := 69) rfl))) (g := (mkF m 270 #[.val (.int x0), .val (.int x1), .val (.int x2), .val (.int x3), .val (.long l1), .second, .val (.long l2), .second, .val (.long l3), .second, .val (.int m1), .val (.int m2), .val (.int m3), .val (.int d), .val (.ref a1), .val (.ref a13), .val (.int (1 : Int32)), .val (.int (0 : Int32)), .val (.int (1 : Int32)), .val (.long l1), .second, .val (.int m1), .val (.long ((10 : Int64) + l1)), .second, .val (.int m1), .val (.long (-9223372036854775808 : Int64)), .second, .val (.int (0 : Int32)), .unset, .unset, .unset] [])) rfl (hb hby at_270)) ?_
          refine own_go (fun _ => XT.lload X14.here hx rfl (hb hby at_273) rfl) ?_
          show own_Go p e below _ (T14.setTop (mkF m 275 #[.val (.int x0), .val (.int x1), .val (.int x2), .val (.int x3), .val (.long l1), .second, .val (.long l2), .second, .val (.long l3), .second, .val (.int m1), .val (.int m2), .val (.int m3), .val (.int d), .val (.ref a1), .val (.ref a13), .val (.int (1 : Int32)), .val (.int (0 : Int32)), .val (.int (1 : Int32)), .val (.long l1), .second, .val (.int m1), .val (.long ((10 : Int64) + l1)), .second, .val (.int m1), .val (.long (-9223372036854775808 : Int64)), .second, .val (.int (0 : Int32)), .unset, .unset, .unset] [(.long l3), (.long (20 : Int64))]))
          refine own_go (fun _ => XT.ladd X14.here hx rfl (hb hby at_275) rfl) ?_
          refine own_go (fun _ => XT.lstore X14.here hx rfl (hb hby at_276) rfl (l' := #[.val (.int x0), .val (.int x1), .val (.int x2), .val (.int x3), .val (.long l1), .second, .val (.long l2), .second, .val (.long l3), .second, .val (.int m1), .val (.int m2), .val (.int m3), .val (.int d), .val (.ref a1), .val (.ref a13), .val (.int (1 : Int32)), .val (.int (0 : Int32)), .val (.int (1 : Int32)), .val (.long l1), .second, .val (.int m1), .val (.long ((10 : Int64) + l1)), .second, .val (.int m1), .val (.long ((20 : Int64) + l3)), .second, .val (.int (0 : Int32)), .unset, .unset, .unset]) rfl) ?_
          refine own_go (fun _ => XS.iload X14.here hx rfl (hb hby at_278) rfl) ?_
          refine own_go (fun _ => XS.istore X14.here hx rfl (hb hby at_280) rfl (l' := #[.val (.int x0), .val (.int x1), .val (.int x2), .val (.int x3), .val (.long l1), .second, .val (.long l2), .second, .val (.long l3), .second, .val (.int m1), .val (.int m2), .val (.int m3), .val (.int d), .val (.ref a1), .val (.ref a13), .val (.int (1 : Int32)), .val (.int (0 : Int32)), .val (.int (1 : Int32)), .val (.long l1), .second, .val (.int m1), .val (.long ((10 : Int64) + l1)), .second, .val (.int m1), .val (.long ((20 : Int64) + l3)), .second, .val (.int m3), .unset, .unset, .unset]) rfl) ?_
          refine own_go (fun _ => XS.goto X14.here hx rfl (pc0 := 282) (pc' := 322) rfl (hb hby at_282) (by decide) (by decide)) ?_
          show own_Go p e below _ (T14.setTop (mkF m 322 #[.val (.int x0), .val (.int x1), .val (.int x2), .val (.int x3), .val (.long l1), .second, .val (.long l2), .second, .val (.long l3), .second, .val (.int m1), .val (.int m2), .val (.int m3), .val (.int d), .val (.ref a1), .val (.ref a13), .val (.int (1 : Int32)), .val (.int (0 : Int32)), .val (.int (1 : Int32)), .val (.long l1), .second, .val (.int m1), .val (.long ((10 : Int64) + l1)), .second, .val (.int m1), .val (.long ((20 : Int64) + l3)), .second, .val (.int m3), .unset, .unset, .unset] []))
          exact G322 _ _ _ _ _ _ _ _ _ (by rw [hEE]; simp [own_keep, own_ans, hm0, hm1, hm2]) (by rw [hEE]; simp [own_keep, own_ans, hm0, hm1, hm2]) (by rw [hEE]; simp [own_keep, own_ans, hm0, hm1, hm2])
      · skip
        refine own_go (fun _ => XS.icmpNo X14.here hx rfl (hb hby at_167) rfl (XT.ii_eq_f hm1)) ?_
        refine own_go (fun _ => XS.iconst X14.here hx rfl (hb hby at_170)) ?_
        refine own_go (fun _ => XS.goto X14.here hx rfl (pc0 := 171) (pc' := 175) rfl (hb hby at_171) (by decide) (by decide)) ?_
        refine own_go (fun _ => XS.istore X14.here hx rfl (hb hby at_175) rfl (l' := #[.val (.int x0), .val (.int x1), .val (.int x2), .val (.int x3), .val (.long l1), .second, .val (.long l2), .second, .val (.long l3), .second, .val (.int m1), .val (.int m2), .val (.int m3), .val (.int d), .val (.ref a1), .val (.ref a13), .val (.int (1 : Int32)), .val (.int (1 : Int32)), .unset, .unset, .unset, .unset, .unset, .unset, .unset, .unset, .unset, .unset, .unset, .unset, .unset]) rfl) ?_
        refine own_go (fun _ => XS.iload X14.here hx rfl (hb hby at_177) rfl) ?_
        refine own_go (fun _ => XS.iload X14.here hx rfl (hb hby at_179) rfl) ?_
        show own_Go p e below _ (T14.setTop (mkF m 181 #[.val (.int x0), .val (.int x1), .val (.int x2), .val (.int x3), .val (.long l1), .second, .val (.long l2), .second, .val (.long l3), .second, .val (.int m1), .val (.int m2), .val (.int m3), .val (.int d), .val (.ref a1), .val (.ref a13), .val (.int (1 : Int32)), .val (.int (1 : Int32)), .unset, .unset, .unset, .unset, .unset, .unset, .unset, .unset, .unset, .unset, .unset, .unset, .unset] [(.int d), (.int m3)]))
        by_cases hm2 : m3 = d
        · skip
          refine own_go (fun _ => XS.icmpYes X14.here hx rfl (pc0 := 181) (pc' := 188) rfl (hb hby at_181) rfl (XT.ii_eq_t hm2) (by decide) (by decide)) ?_
          refine own_go (fun _ => XS.iconst X14.here hx rfl (hb hby at_188)) ?_
          refine own_go (fun _ => XS.istore X14.here hx rfl (hb hby at_189) rfl (l' := #[.val (.int x0), .val (.int x1), .val (.int x2), .val (.int x3), .val (.long l1), .second, .val (.long l2), .second, .val (.long l3), .second, .val (.int m1), .val (.int m2), .val (.int m3), .val (.int d), .val (.ref a1), .val (.ref a13), .val (.int (1 : Int32)), .val (.int (1 : Int32)), .val (.int (0 : Int32)), .unset, .unset, .unset, .unset, .unset, .unset, .unset, .unset, .unset, .unset, .unset, .unset]) rfl) ?_
          refine own_go (X14.ldc2Long hx hown (mvT hZ (hw _ (List.mem_of_getElem? (i := 75) rfl))) (g := (mkF m 191 #[.val (.int x0), .val (.int x1), .val (.int x2), .val (.int x3), .val (.long l1), .second, .val (.long l2), .second, .val (.long l3), .second, .val (.int m1), .val (.int m2), .val (.int m3), .val (.int d), .val (.ref a1), .val (.ref a13), .val (.int (1 : Int32)), .val (.int (1 : Int32)), .val (.int (0 : Int32)), .unset, .unset, .unset, .unset, .unset, .unset, .unset, .unset, .unset, .unset, .unset, .unset] [])) rfl (hb hby at_191)) ?_
          refine own_go (fun _ => XT.lstore X14.here hx rfl (hb hby at_194) rfl (l' := #[.val (.int x0), .val (.int x1), .val (.int x2), .val (.int x3), .val (.long l1), .second, .val (.long l2), .second, .val (.long l3), .second, .val (.int m1), .val (.int m2), .val (.int m3), .val (.int d), .val (.ref a1), .val (.ref a13), .val (.int (1 : Int32)), .val (.int (1 : Int32)), .val (.int (0 : Int32)), .val (.long (-9223372036854775808 : Int64)), .second, .unset, .unset, .unset, .unset, .unset, .unset, .unset, .unset, .unset, .unset]) rfl) ?_
          refine own_go (fun _ => XS.iconst X14.here hx rfl (hb hby at_196)) ?_
          show own_Go p e below _ (T14.setTop (mkF m 197 #[.val (.int x0), .val (.int x1), .val (.int x2), .val (.int x3), .val (.long l1), .second, .val (.long l2), .second, .val (.long l3), .second, .val (.int m1), .val (.int m2), .val (.int m3), .val (.int d), .val (.ref a1), .val (.ref a13), .val (.int (1 : Int32)), .val (.int (1 : Int32)), .val (.int (0 : Int32)), .val (.long (-9223372036854775808 : Int64)), .second, .unset, .unset, .unset, .unset, .unset, .unset, .unset, .unset, .unset, .unset] [(.int (0 : Int32))]))
          refine own_go (fun _ => XS.istore X14.here hx rfl (hb hby at_197) rfl (l' := #[.val (.int x0), .val (.int x1), .val (.int x2), .val (.int x3), .val (.long l1), .second, .val (.long l2), .second, .val (.long l3), .second, .val (.int m1), .val (.int m2), .val (.int m3), .val (.int d), .val (.ref a1), .val (.ref a13), .val (.int (1 : Int32)), .val (.int (1 : Int32)), .val (.int (0 : Int32)), .val (.long (-9223372036854775808 : Int64)), .second, .val (.int (0 : Int32)), .unset, .unset, .unset, .unset, .unset, .unset, .unset, .unset, .unset]) rfl) ?_
          refine own_go (fun _ => XS.iload X14.here hx rfl (hb hby at_199) rfl) ?_
          refine own_go (fun _ => XS.ifNo X14.here hx rfl (hb hby at_201) rfl (XT.i0_eq_f (by decide))) ?_
          refine own_go (fun _ => XT.lload X14.here hx rfl (hb hby at_204) rfl) ?_
          refine own_go (fun _ => XT.lstore X14.here hx rfl (hb hby at_206) rfl (l' := #[.val (.int x0), .val (.int x1), .val (.int x2), .val (.int x3), .val (.long l1), .second, .val (.long l2), .second, .val (.long l3), .second, .val (.int m1), .val (.int m2), .val (.int m3), .val (.int d), .val (.ref a1), .val (.ref a13), .val (.int (1 : Int32)), .val (.int (1 : Int32)), .val (.int (0 : Int32)), .val (.long l1), .second, .val (.int (0 : Int32)), .unset, .unset, .unset, .unset, .unset, .unset, .unset, .unset, .unset]) rfl) ?_
          refine own_go (fun _ => XS.iload X14.here hx rfl (hb hby at_208) rfl) ?_
          show own_Go p e below _ (T14.setTop (mkF m 210 #[.val (.int x0), .val (.int x1), .val (.int x2), .val (.int x3), .val (.long l1), .second, .val (.long l2), .second, .val (.long l3), .second, .val (.int m1), .val (.int m2), .val (.int m3), .val (.int d), .val (.ref a1), .val (.ref a13), .val (.int (1 : Int32)), .val (.int (1 : Int32)), .val (.int (0 : Int32)), .val (.long l1), .second, .val (.int (0 : Int32)), .unset, .unset, .unset, .unset, .unset, .unset, .unset, .unset, .unset] [(.int m1)]))
          refine own_go (fun _ => XS.istore X14.here hx rfl (hb hby at_210) rfl (l' := #[.val (.int x0), .val (.int x1), .val (.int x2), .val (.int x3), .val (.long l1), .second, .val (.long l2), .second, .val (.long l3), .second, .val (.int m1), .val (.int m2), .val (.int m3), .val (.int d), .val (.ref a1), .val (.ref a13), .val (.int (1 : Int32)), .val (.int (1 : Int32)), .val (.int (0 : Int32)), .val (.long l1), .second, .val (.int m1), .unset, .unset, .unset, .unset, .unset, .unset, .unset, .unset, .unset]) rfl) ?_
          refine own_go (X14.ldc2Long hx hown (mvT hZ (hw _ (List.mem_of_getElem? (i := 75) rfl))) (g := (mkF m 212 #[.val (.int x0), .val (.int x1), .val (.int x2), .val (.int x3), .val (.long l1), .second, .val (.long l2), .second, .val (.long l3), .second, .val (.int m1), .val (.int m2), .val (.int m3), .val (.int d), .val (.ref a1), .val (.ref a13), .val (.int (1 : Int32)), .val (.int (1 : Int32)), .val (.int (0 : Int32)), .val (.long l1), .second, .val (.int m1), .unset, .unset, .unset, .unset, .unset, .unset, .unset, .unset, .unset] [])) rfl (hb hby at_212)) ?_
          refine own_go (fun _ => XT.lstore X14.here hx rfl (hb hby at_215) rfl (l' := #[.val (.int x0), .val (.int x1), .val (.int x2), .val (.int x3), .val (.long l1), .second, .val (.long l2), .second, .val (.long l3), .second, .val (.int m1), .val (.int m2), .val (.int m3), .val (.int d), .val (.ref a1), .val (.ref a13), .val (.int (1 : Int32)), .val (.int (1 : Int32)), .val (.int (0 : Int32)), .val (.long l1), .second, .val (.int m1), .val (.long (-9223372036854775808 : Int64)), .second, .unset, .unset, .unset, .unset, .unset, .unset, .unset]) rfl) ?_
          refine own_go (fun _ => XS.iconst X14.here hx rfl (hb hby at_217)) ?_
          refine own_go (fun _ => XS.istore X14.here hx rfl (hb hby at_218) rfl (l' := #[.val (.int x0), .val (.int x1), .val (.int x2), .val (.int x3), .val (.long l1), .second, .val (.long l2), .second, .val (.long l3), .second, .val (.int m1), .val (.int m2), .val (.int m3), .val (.int d), .val (.ref a1), .val (.ref a13), .val (.int (1 : Int32)), .val (.int (1 : Int32)), .val (.int (0 : Int32)), .val (.long l1), .second, .val (.int m1), .val (.long (-9223372036854775808 : Int64)), .second, .val (.int (0 : Int32)), .unset, .unset, .unset, .unset, .unset, .unset]) rfl) ?_
          refine own_go (fun _ => XS.iload X14.here hx rfl (hb hby at_220) rfl) ?_
          show own_Go p e below _ (T14.setTop (mkF m 222 #[.val (.int x0), .val (.int x1), .val (.int x2), .val (.int x3), .val (.long l1), .second, .val (.long l2), .second, .val (.long l3), .second, .val (.int m1), .val (.int m2), .val (.int m3), .val (.int d), .val (.ref a1), .val (.ref a13), .val (.int (1 : Int32)), .val (.int (1 : Int32)), .val (.int (0 : Int32)), .val (.long l1), .second, .val (.int m1), .val (.long (-9223372036854775808 : Int64)), .second, .val (.int (0 : Int32)), .unset, .unset, .unset, .unset, .unset, .unset] [(.int (1 : Int32))]))
          refine own_go (fun _ => XS.ifNo X14.here hx rfl (hb hby at_222) rfl (XT.i0_eq_f (by decide))) ?_
          refine own_go (X14.ldc2Long hx hown (mvT hZ (hw _ (List.mem_of_getElem? (i := 60) rfl))) (g := (mkF m 225 #[.val (.int x0), .val (.int x1), .val (.int x2), .val (.int x3), .val (.long l1), .second, .val (.long l2), .second, .val (.long l3), .second, .val (.int m1), .val (.int m2), .val (.int m3), .val (.int d), .val (.ref a1), .val (.ref a13), .val (.int (1 : Int32)), .val (.int (1 : Int32)), .val (.int (0 : Int32)), .val (.long l1), .second, .val (.int m1), .val (.long (-9223372036854775808 : Int64)), .second, .val (.int (0 : Int32)), .unset, .unset, .unset, .unset, .unset, .unset] [])) rfl (hb hby at_225)) ?_
          refine own_go (fun _ => XT.lload X14.here hx rfl (hb hby at_228) rfl) ?_
          refine own_go (fun _ => XT.ladd X14.here hx rfl (hb hby at_230) rfl) ?_
          refine own_go (fun _ => XT.lstore X14.here hx rfl (hb hby at_231) rfl (l' := #[.val (.int x0), .val (.int x1), .val (.int x2), .val (.int x3), .val (.long l1), .second, .val (.long l2), .second, .val (.long l3), .second, .val (.int m1), .val (.int m2), .val (.int m3), .val (.int d), .val (.ref a1), .val (.ref a13), .val (.int (1 : Int32)), .val (.int (1 : Int32)), .val (.int (0 : Int32)), .val (.long l1), .second, .val (.int m1), .val (.long ((10 : Int64) + l2)), .second, .val (.int (0 : Int32)), .unset, .unset, .unset, .unset, .unset, .unset]) rfl) ?_
          refine own_go (fun _ => XS.iload X14.here hx rfl (hb hby at_233) rfl) ?_
          show own_Go p e below _ (T14.setTop (mkF m 235 #[.val (.int x0), .val (.int x1), .val (.int x2), .val (.int x3), .val (.long l1), .second, .val (.long l2), .second, .val (.long l3), .second, .val (.int m1), .val (.int m2), .val (.int m3), .val (.int d), .val (.ref a1), .val (.ref a13), .val (.int (1 : Int32)), .val (.int (1 : Int32)), .val (.int (0 : Int32)), .val (.long l1), .second, .val (.int m1), .val (.long ((10 : Int64) + l2)), .second, .val (.int (0 : Int32)), .unset, .unset, .unset, .unset, .unset, .unset] [(.int m2)]))
          refine own_go (fun _ => XS.istore X14.here hx rfl (hb hby at_235) rfl (l' := #[.val (.int x0), .val (.int x1), .val (.int x2), .val (.int x3), .val (.long l1), .second, .val (.long l2), .second, .val (.long l3), .second, .val (.int m1), .val (.int m2), .val (.int m3), .val (.int d), .val (.ref a1), .val (.ref a13), .val (.int (1 : Int32)), .val (.int (1 : Int32)), .val (.int (0 : Int32)), .val (.long l1), .second, .val (.int m1), .val (.long ((10 : Int64) + l2)), .second, .val (.int m2), .unset, .unset, .unset, .unset, .unset, .unset]) rfl) ?_
          refine own_go (fun _ => XS.goto X14.here hx rfl (pc0 := 237) (pc' := 257) rfl (hb hby at_237) (by decide) (by decide)) ?_
          refine own_go (X14.ldc2Long hx hown (mvT hZ (hw _ (List.mem_of_getElem? (i := 75) rfl))) (g := (mkF m 257 #[.val (.int x0), .val (.int x1), .val (.int x2), .val (.int x3), .val (.long l1), .second, .val (.long l2), .second, .val (.long l3), .second, .val (.int m1), .val (.int m2), .val (.int m3), .val (.int d), .val (.ref a1), .val (.ref a13), .val (.int (1 : Int32)), .val (.int (1 : Int32)), .val (.int (0 : Int32)), .val (.long l1), .second, .val (.int m1), .val (.long ((10 : Int64) + l2)), .second, .val (.int m2), .unset, .unset, .unset, .unset, .unset, .unset] [])) rfl (hb hby at_257)) ?_
          refine own_go (fun _ => XT.lstore X14.here hx rfl (hb hby at_260) rfl (l' := #[.val (.int x0), .val (.int x1), .val (.int x2), .val (.int x3), .val (.long l1), .second, .val (.long l2), .second, .val (.long l3), .second, .val (.int m1), .val (.int m2), .val (.int m3), .val (.int d), .val (.ref a1), .val (.ref a13), .val (.int (1 : Int32)), .val (.int (1 : Int32)), .val (.int (0 : Int32)), .val (.long l1), .second, .val (.int m1), .val (.long ((10 : Int64) + l2)), .second, .val (.int m2), .val (.long (-9223372036854775808 : Int64)), .second, .unset, .unset, .unset, .unset]) rfl) ?_
          refine own_go (fun _ => XS.iconst X14.here hx rfl (hb hby at_262)) ?_
          refine own_go (fun _ => XS.istore X14.here hx rfl (hb hby at_263) rfl (l' := #[.val (.int x0), .val (.int x1), .val (.int x2), .val (.int x3), .val (.long l1), .second, .val (.long l2), .second, .val (.long l3), .second, .val (.int m1), .val (.int m2), .val (.int m3), .val (.int d), .val (.ref a1), .val (.ref a13), .val (.int (1 : Int32)), .val (.int (1 : Int32)), .val (.int (0 : Int32)), .val (.long l1), .second, .val (.int m1), .val (.long ((10 : Int64) + l2)), .second, .val (.int m2), .val (.long (-9223372036854775808 : Int64)), .second, .val (.int (0 : Int32)), .unset, .unset, .unset]) rfl) ?_
          show own_Go p e below _ (T14.setTop (mkF m 265 #[.val (.int x0), .val (.int x1), .val (.int x2), .val (.int x3), .val (.long l1), .second, .val (.long l2), .second, .val (.long l3), .second, .val (.int m1), .val (.int m2), .val (.int m3), .val (.int d), .val (.ref a1), .val (.ref a13), .val (.int (1 : Int32)), .val (.int (1 : Int32)), .val (.int (0 : Int32)), .val (.long l1), .second, .val (.int m1), .val (.long ((10 : Int64) + l2)), .second, .val (.int m2), .val (.long (-9223372036854775808 : Int64)), .second, .val (.int (0 : Int32)), .unset, .unset, .unset] []))
          refine own_go (fun _ => XS.iload X14.here hx rfl (hb hby at_265) rfl) ?_
          refine own_go (fun _ => XS.ifYes X14.here hx rfl (pc0 := 267) (pc' := 285) rfl (hb hby at_267) rfl (XT.i0_eq_t (by decide)) (by decide) (by decide)) ?_
          refine own_go (fun _ => XS.iload X14.here hx rfl (hb hby at_285) rfl) ?_
          refine own_go (fun _ => XS.ifNo X14.here hx rfl (hb hby at_287) rfl (XT.i0_eq_f (by decide))) ?_
          refine own_go (X14.ldc2Long hx hown (mvT hZ (hw _ (List.mem_of_getElem? (i := 69) rfl))) (g := (mkF m 290 #[.val (.int x0), .val (.int x1), .val (.int x2), .val (.int x3), .val (.long l1), .second, .val (.long l2), .second, .val (.long l3), .second, .val (.int m1), .val (.int m2), .val (.int m3), .val (.int d), .val (.ref a1), .val (.ref a13), .val (.int (1 : Int32)), .val (.int (1 : Int32)), .val (.int (0 : Int32)), .val (.long l1), .second, .val (.int m1), .val (.long ((10 : Int64) + l2)), .second, .val (.int m2), .val (.long (-9223372036854775808 : Int64)), .second, .val (.int (0 : Int32)), .unset, .unset, .unset] [])) rfl (hb hby at_290)) ?_
          refine own_go (fun _ => XT.lload X14.here hx rfl (hb hby at_293) rfl) ?_
          show own_Go p e below _ (T14.setTop (mkF m 295 #[.val (.int x0), .val (.int x1), .val (.int x2), .val (.int x3), .val (.long l1), .second, .val (.long l2), .second, .val (.long l3), .second, .val (.int m1), .val (.int m2), .val (.int m3), .val (.int d), .val (.ref a1), .val (.ref a13), .val (.int (1 : Int32)), .val (.int (1 : Int32)), .val (.int (0 : Int32)), .val (.long l1), .second, .val (.int m1), .val (.long ((10 : Int64) + l2)), .second, .val (.int m2), .val (.long (-9223372036854775808 : Int64)), .second, .val (.int (0 : Int32)), .unset, .unset, .unset] [(.long l2), (.long (20 : Int64))]))
          refine own_go (fun _ => XT.ladd X14.here hx rfl (hb hby at_295) rfl) ?_
          refine own_go (fun _ => XT.lstore X14.here hx rfl (hb hby at_296) rfl (l' := #[.val (.int x0), .val (.int x1), .val (.int x2), .val (.int x3), .val (.long l1), .second, .val (.long l2), .second, .val (.long l3), .second, .val (.int m1), .val (.int m2), .val (.int m3), .val (.int d), .val (.ref a1), .val (.ref a13), .val (.int (1 : Int32)), .val (.int (1 : Int32)), .val (.int (0 : Int32)), .val (.long l1), .second, .val (.int m1), .val (.long ((10 : Int64) + l2)), .second, .val (.int m2), .val (.long ((20 : Int64) + l2)), .second, .val (.int (0 : Int32)), .unset, .unset, .unset]) rfl) ?_
          refine own_go (fun _ => XS.iload X14.here hx rfl (hb hby at_298) rfl) ?_
          refine own_go (fun _ => XS.istore X14.here hx rfl (hb hby at_300) rfl (l' := #[.val (.int x0), .val (.int x1), .val (.int x2), .val (.int x3), .val (.long l1), .second, .val (.long l2), .second, .val (.long l3), .second, .val (.int m1), .val (.int m2), .val (.int m3), .val (.int d), .val (.ref a1), .val (.ref a13), .val (.int (1 : Int32)), .val (.int (1 : Int32)), .val (.int (0 : Int32)), .val (.long l1), .second, .val (.int m1), .val (.long ((10 : Int64) + l2)), .second, .val (.int m2), .val (.long ((20 : Int64) + l2)), .second, .val (.int m2), .unset, .unset, .unset]) rfl) ?_
          refine own_go (fun _ => XS.goto X14.here hx rfl (pc0 := 302) (pc' := 322) rfl (hb hby at_302) (by decide) (by decide)) ?_
          show own_Go p e below _ (T14.setTop (mkF m 322 #[.val (.int x0), .val (.int x1), .val (.int x2), .val (.int x3), .val (.long l1), .second, .val (.long l2), .second, .val (.long l3), .second, .val (.int m1), .val (.int m2), .val (.int m3), .val (.int d), .val (.ref a1), .val (.ref a13), .val (.int (1 : Int32)), .val (.int (1 : Int32)), .val (.int (0 : Int32)), .val (.long l1), .second, .val (.int m1), .val (.long ((10 : Int64) + l2)), .second, .val (.int m2), .val (.long ((20 : Int64) + l2)), .second, .val (.int m2), .unset, .unset, .unset] []))
          exact G322 _ _ _ _ _ _ _ _ _ (by rw [hEE]; simp [own_keep, own_ans, hm0, hm1, hm2]) (by rw [hEE]; simp [own_keep, own_ans, hm0, hm1, hm2]) (by rw [hEE]; simp [own_keep, own_ans, hm0, hm1, hm2])
        · skip
          refine own_go (fun _ => XS.icmpNo X14.here hx rfl (hb hby at_181) rfl (XT.ii_eq_f hm2)) ?_
          refine own_go (fun _ => XS.iconst X14.here hx rfl (hb hby at_184)) ?_
          refine own_go (fun _ => XS.goto X14.here hx rfl (pc0 := 185) (pc' := 189) rfl (hb hby at_185) (by decide) (by decide)) ?_
          refine own_go (fun _ => XS.istore X14.here hx rfl (hb hby at_189) rfl (l' := #[.val (.int x0), .val (.int x1), .val (.int x2), .val (.int x3), .val (.long l1), .second, .val (.long l2), .second, .val (.long l3), .second, .val (.int m1), .val (.int m2), .val (.int m3), .val (.int d), .val (.ref a1), .val (.ref a13), .val (.int (1 : Int32)), .val (.int (1 : Int32)), .val (.int (1 : Int32)), .unset, .unset, .unset, .unset, .unset, .unset, .unset, .unset, .unset, .unset, .unset, .unset]) rfl) ?_
          refine own_go (X14.ldc2Long hx hown (mvT hZ (hw _ (List.mem_of_getElem? (i := 75) rfl))) (g := (mkF m 191 #[.val (.int x0), .val (.int x1), .val (.int x2), .val (.int x3), .val (.long l1), .second, .val (.long l2), .second, .val (.long l3), .second, .val (.int m1), .val (.int m2), .val (.int m3), .val (.int d), .val (.ref a1), .val (.ref a13), .val (.int (1 : Int32)), .val (.int (1 : Int32)), .val (.int (1 : Int32)), .unset, .unset, .unset, .unset, .unset, .unset, .unset, .unset, .unset, .unset, .unset, .unset] [])) rfl (hb hby at_191)) ?_
          refine own_go (fun _ => XT.lstore X14.here hx rfl (hb hby at_194) rfl (l' := #[.val (.int x0), .val (.int x1), .val (.int x2), .val (.int x3), .val (.long l1), .second, .val (.long l2), .second, .val (.long l3), .second, .val (.int m1), .val (.int m2), .val (.int m3), .val (.int d), .val (.ref a1), .val (.ref a13), .val (.int (1 : Int32)), .val (.int (1 : Int32)), .val (.int (1 : Int32)), .val (.long (-9223372036854775808 : Int64)), .second, .unset, .unset, .unset, .unset, .unset, .unset, .unset, .unset, .unset, .unset]) rfl) ?_
          show own_Go p e below _ (T14.setTop (mkF m 196 #[.val (.int x0), .val (.int x1), .val (.int x2), .val (.int x3), .val (.long l1), .second, .val (.long l2), .second, .val (.long l3), .second, .val (.int m1), .val (.int m2), .val (.int m3), .val (.int d), .val (.ref a1), .val (.ref a13), .val (.int (1 : Int32)), .val (.int (1 : Int32)), .val (.int (1 : Int32)), .val (.long (-9223372036854775808 : Int64)), .second, .unset, .unset, .unset, .unset, .unset, .unset, .unset, .unset, .unset, .unset] []))
          refine own_go (fun _ => XS.iconst X14.here hx rfl (hb hby at_196)) ?_
          refine own_go (fun _ => XS.istore X14.here hx rfl (hb hby at_197) rfl (l' := #[.val (.int x0), .val (.int x1), .val (.int x2), .val (.int x3), .val (.long l1), .second, .val (.long l2), .second, .val (.long l3), .second, .val (.int m1), .val (.int m2), .val (.int m3), .val (.int d), .val (.ref a1), .val (.ref a13), .val (.int (1 : Int32)), .val (.int (1 : Int32)), .val (.int (1 : Int32)), .val (.long (-9223372036854775808 : Int64)), .second, .val (.int (0 : Int32)), .unset, .unset, .unset, .unset, .unset, .unset, .unset, .unset, .unset]) rfl) ?_
          refine own_go (fun _ => XS.iload X14.here hx rfl (hb hby at_199) rfl) ?_
          refine own_go (fun _ => XS.ifNo X14.here hx rfl (hb hby at_201) rfl (XT.i0_eq_f (by decide))) ?_
          refine own_go (fun _ => XT.lload X14.here hx rfl (hb hby at_204) rfl) ?_
          refine own_go (fun _ => XT.lstore X14.here hx rfl (hb hby at_206) rfl (l' := #[.val (.int x0), .val (.int x1), .val (.int x2), .val (.int x3), .val (.long l1), .second, .val (.long l2), .second, .val (.long l3), .second, .val (.int m1), .val (.int m2), .val (.int m3), .val (.int d), .val (.ref a1), .val (.ref a13), .val (.int (1 : Int32)), .val (.int (1 : Int32)), .val (.int (1 : Int32)), .val (.long l1), .second, .val (.int (0 : Int32)), .unset, .unset, .unset, .unset, .unset, .unset, .unset, .unset, .unset]) rfl) ?_
          show own_Go p e below _ (T14.setTop (mkF m 208 #[.val (.int x0), .val (.int x1), .val (.int x2), .val (.int x3), .val (.long l1), .second, .val (.long l2), .second, .val (.long l3), .second, .val (.int m1), .val (.int m2), .val (.int m3), .val (.int d), .val (.ref a1), .val (.ref a13), .val (.int (1 : Int32)), .val (.int (1 : Int32)), .val (.int (1 : Int32)), .val (.long l1), .second, .val (.int (0 : Int32)), .unset, .unset, .unset, .unset, .unset, .unset, .unset, .unset, .unset] []))
          refine own_go (fun _ => XS.iload X14.here hx rfl (hb hby at_208) rfl) ?_
          refine own_go (fun _ => XS.istore X14.here hx rfl (hb hby at_210) rfl (l' := #[.val (.int x0), .val (.int x1), .val (.int x2), .val (.int x3), .val (.long l1), .second, .val (.long l2), .second, .val (.long l3), .second, .val (.int m1), .val (.int m2), .val (.int m3), .val (.int d), .val (.ref a1), .val (.ref a13), .val (.int (1 : Int32)), .val (.int (1 : Int32)), .val (.int (1 : Int32)), .val (.long l1), .second, .val (.int m1), .unset, .unset, .unset, .unset, .unset, .unset, .unset, .unset, .unset]) rfl) ?_
          refine own_go (X14.ldc2Long hx hown (mvT hZ (hw _ (List.mem_of_getElem? (i := 75) rfl))) (g := (mkF m 212 #[.val (.int x0), .val (.int x1), .val (.int x2), .val (.int x3), .val (.long l1), .second, .val (.long l2), .second, .val (.long l3), .second, .val (.int m1), .val (.int m2), .val (.int m3), .val (.int d), .val (.ref a1), .val (.ref a13), .val (.int (1 : Int32)), .val (.int (1 : Int32)), .val (.int (1 : Int32)), .val (.long l1), .second, .val (.int m1), .unset, .unset, .unset, .unset, .unset, .unset, .unset, .unset, .unset] [])) rfl (hb hby at_212)) ?_
          refine own_go (fun _ => XT.lstore X14.here hx rfl (hb hby at_215) rfl (l' := #[.val (.int x0), .val (.int x1), .val (.int x2), .val (.int x3), .val (.long l1), .second, .val (.long l2), .second, .val (.long l3), .second, .val (.int m1), .val (.int m2), .val (.int m3), .val (.int d), .val (.ref a1), .val (.ref a13), .val (.int (1 : Int32)), .val (.int (1 : Int32)), .val (.int (1 : Int32)), .val (.long l1), .second, .val (.int m1), .val (.long (-9223372036854775808 : Int64)), .second, .unset, .unset, .unset, .unset, .unset, .unset, .unset]) rfl) ?_
          refine own_go (fun _ => XS.iconst X14.here hx rfl (hb hby at_217)) ?_
          refine own_go (fun _ => XS.istore X14.here hx rfl (hb hby at_218) rfl (l' := #[.val (.int x0), .val (.int x1), .val (.int x2), .val (.int x3), .val (.long l1), .second, .val (.long l2), .second, .val (.long l3), .second, .val (.int m1), .val (.int m2), .val (.int m3), .val (.int d), .val (.ref a1), .val (.ref a13), .val (.int (1 : Int32)), .val (.int (1 : Int32)), .val (.int (1 : Int32)), .val (.long l1), .second, .val (.int m1), .val (.long (-9223372036854775808 : Int64)), .second, .val (.int (0 : Int32)), .unset, .unset, .unset, .unset, .unset, .unset]) rfl) ?_
          show own_Go p e below _ (T14.setTop (mkF m 220 #[.val (.int x0), .val (.int x1), .val (.int x2), .val (.int x3), .val (.long l1), .second, .val (.long l2), .second, .val (.long l3), .second, .val (.int m1), .val (.int m2), .val (.int m3), .val (.int d), .val (.ref a1), .val (.ref a13), .val (.int (1 : Int32)), .val (.int (1 : Int32)), .val (.int (1 : Int32)), .val (.long l1), .second, .val (.int m1), .val (.long (-9223372036854775808 : Int64)), .second, .val (.int (0 : Int32)), .unset, .unset, .unset, .unset, .unset, .unset] []))
          refine own_go (fun _ => XS.iload X14.here hx rfl (hb hby at_220) rfl) ?_
          refine own_go (fun _ => XS.ifNo X14.here hx rfl (hb hby at_222) rfl (XT.i0_eq_f (by decide))) ?_
          refine own_go (X14.ldc2Long hx hown (mvT hZ (hw _ (List.mem_of_getElem? (i := 60) rfl))) (g := (mkF m 225 #[.val (.int x0), .val (.int x1), .val (.int x2), .val (.int x3), .val (.long l1), .second, .val (.long l2), .second, .val (.long l3), .second, .val (.int m1), .val (.int m2), .val (.int m3), .val (.int d), .val (.ref a1), .val (.ref a13), .val (.int (1 : Int32)), .val (.int (1 : Int32)), .val (.int (1 : Int32)), .val (.long l1), .second, .val (.int m1), .val (.long (-9223372036854775808 : Int64)), .second, .val (.int (0 : Int32)), .unset, .unset, .unset, .unset, .unset, .unset] [])) rfl (hb hby at_225)) ?_
          refine own_go (fun _ => XT.lload X14.here hx rfl (hb hby at_228) rfl) ?_
          refine own_go (fun _ => XT.ladd X14.here hx rfl (hb hby at_230) rfl) ?_
          refine own_go (fun _ => XT.lstore X14.here hx rfl (hb hby at_231) rfl (l' := #[.val (.int x0), .val (.int x1), .val (.int x2), .val (.int x3), .val (.long l1), .second, .val (.long l2), .second, .val (.long l3), .second, .val (.int m1), .val (.int m2), .val (.int m3), .val (.int d), .val (.ref a1), .val (.ref a13), .val (.int (1 : Int32)), .val (.int (1 : Int32)), .val (.int (1 : Int32)), .val (.long l1), .second, .val (.int m1), .val (.long ((10 : Int64) + l2)), .second, .val (.int (0 : Int32)), .unset, .unset, .unset, .unset, .unset, .unset]) rfl) ?_
          show own_Go p e below _ (T14.setTop (mkF m 233 #[.val (.int x0), .val (.int x1), .val (.int x2), .val (.int x3), .val (.long l1), .second, .val (.long l2), .second, .val (.long l3), .second, .val (.int m1), .val (.int m2), .val (.int m3), .val (.int d), .val (.ref a1), .val (.ref a13), .val (.int (1 : Int32)), .val (.int (1 : Int32)), .val (.int (1 : Int32)), .val (.long l1), .second, .val (.int m1), .val (.long ((10 : Int64) + l2)), .second, .val (.int (0 : Int32)), .unset, .unset, .unset, .unset, .unset, .unset] []))
          refine own_go (fun _ => XS.iload X14.here hx rfl (hb hby at_233) rfl) ?_
          refine own_go (fun _ => XS.istore X14.here hx rfl (hb hby at_235) rfl (l' := #[.val (.int x0), .val (.int x1), .val (.int x2), .val (.int x3), .val (.long l1), .second, .val (.long l2), .second, .val (.long l3), .second, .val (.int m1), .val (.int m2), .val (.int m3), .val (.int d), .val (.ref a1), .val (.ref a13), .val (.int (1 : Int32)), .val (.int (1 : Int32)), .val (.int (1 : Int32)), .val (.long l1), .second, .val (.int m1), .val (.long ((10 : Int64) + l2)), .second, .val (.int m2), .unset, .unset, .unset, .unset, .unset, .unset]) rfl) ?_
          refine own_go (fun _ => XS.goto X14.here hx rfl (pc0 := 237) (pc' := 257) rfl (hb hby at_237) (by decide) (by decide)) ?_
          refine own_go (X14.ldc2Long hx hown (mvT hZ (hw _ (List.mem_of_getElem? (i := 75) rfl))) (g := (mkF m 257 #[.val (.int x0), .val (.int x1), .val (.int x2), .val (.int x3), .val (.long l1), .second, .val (.long l2), .second, .val (.long l3), .second, .val (.int m1), .val (.int m2), .val (.int m3), .val (.int d), .val (.ref a1), .val (.ref a13), .val (.int (1 : Int32)), .val (.int (1 : Int32)), .val (.int (1 : Int32)), .val (.long l1), .second, .val (.int m1), .val (.long ((10 : Int64) + l2)), .second, .val (.int m2), .unset, .unset, .unset, .unset, .unset, .unset] [])) rfl (hb hby at_257)) ?_
          refine own_go (fun _ => XT.lstore X14.here hx rfl (hb hby at_260) rfl (l' := #[.val (.int x0), .val (.int x1), .val (.int x2), .val (.int x3), .val (.long l1), .second, .val (.long l2), .second, .val (.long l3), .second, .val (.int m1), .val (.int m2), .val (.int m3), .val (.int d), .val (.ref a1), .val (.ref a13), .val (.int (1 : Int32)), .val (.int (1 : Int32)), .val (.int (1 : Int32)), .val (.long l1), .second, .val (.int m1), .val (.long ((10 : Int64) + l2)), .second, .val (.int m2), .val (.long (-9223372036854775808 : Int64)), .second, .unset, .unset, .unset, .unset]) rfl) ?_
          refine own_go (fun _ => XS.iconst X14.here hx rfl (hb hby at_262)) ?_
          show own_Go p e below _ (T14.setTop (mkF m 263 #[.val (.int x0), .val (.int x1), .val (.int x2), .val (.int x3), .val (.long l1), .second, .val (.long l2), .second, .val (.long l3), .second, .val (.int m1), .val (.int m2), .val (.int m3), .val (.int d), .val (.ref a1), .val (.ref a13), .val (.int (1 : Int32)), .val (.int (1 : Int32)), .val (.int (1 : Int32)), .val (.long l1), .second, .val (.int m1), .val (.long ((10 : Int64) + l2)), .second, .val (.int m2), .val (.long (-9223372036854775808 : Int64)), .second, .unset, .unset, .unset, .unset] [(.int (0 : Int32))]))
          refine own_go (fun _ => XS.istore X14.here hx rfl (hb hby at_263) rfl (l' := #[.val (.int x0), .val (.int x1), .val (.int x2), .val (.int x3), .val (.long l1), .second, .val (.long l2), .second, .val (.long l3), .second, .val (.int m1), .val (.int m2), .val (.int m3), .val (.int d), .val (.ref a1), .val (.ref a13), .val (.int (1 : Int32)), .val (.int (1 : Int32)), .val (.int (1 : Int32)), .val (.long l1), .second, .val (.int m1), .val (.long ((10 : Int64) + l2)), .second, .val (.int m2), .val (.long (-9223372036854775808 : Int64)), .second, .val (.int (0 : Int32)), .unset, .unset, .unset]) rfl) ?_
          refine own_go (fun _ => XS.iload X14.here hx rfl (hb hby at_265) rfl) ?_
          refine own_go (fun _ => XS.ifNo X14.here hx rfl (hb hby at_267) rfl (XT.i0_eq_f (by decide))) ?_
          refine own_go (X14.ldc2Long hx hown (mvT hZ (hw _ (List.mem_of_getElem? (i := 69) rfl))) (g := (mkF m 270 #[.val (.int x0), .val (.int x1), .val (.int x2), .val (.int x3), .val (.long l1), .second, .val (.long l2), .second, .val (.long l3), .second, .val (.int m1), .val (.int m2), .val (.int m3), .val (.int d), .val (.ref a1), .val (.ref a13), .val (.int (1 : Int32)), .val (.int (1 : Int32)), .val (.int (1 : Int32)), .val (.long l1), .second, .val (.int m1), .val (.long ((10 : Int64) + l2)), .second, .val (.int m2), .val (.long (-9223372036854775808 : Int64)), .second, .val (.int (0 : Int32)), .unset, .unset, .unset] [])) rfl (hb hby at_270)) ?_
          refine own_go (fun _ => XT.lload X14.here hx rfl (hb hby at_273) rfl) ?_
          refine own_go (fun _ => XT.ladd X14.here hx rfl (hb hby at_275) rfl) ?_
          show own_Go p e below _ (T14.setTop (mkF m 276 #[.val (.int x0), .val (.int x1), .val (.int x2), .val (.int x3), .val (.long l1), .second, .val (.long l2), .second, .val (.long l3), .second, .val (.int m1), .val (.int m2), .val (.int m3), .val (.int d), .val (.ref a1), .val (.ref a13), .val (.int (1 : Int32)), .val (.int (1 : Int32)), .val (.int (1 : Int32)), .val (.long l1), .second, .val (.int m1), .val (.long ((10 : Int64) + l2)), .second, .val (.int m2), .val (.long (-9223372036854775808 : Int64)), .second, .val (.int (0 : Int32)), .unset, .unset, .unset] [(.long ((20 : Int64) + l3))]))
          refine own_go (fun _ => XT.lstore X14.here hx rfl (hb hby at_276) rfl (l' := #[.val (.int x0), .val (.int x1), .val (.int x2), .val (.int x3), .val (.long l1), .second, .val (.long l2), .second, .val (.long l3), .second, .val (.int m1), .val (.int m2), .val (.int m3), .val (.int d), .val (.ref a1), .val (.ref a13), .val (.int (1 : Int32)), .val (.int (1 : Int32)), .val (.int (1 : Int32)), .val (.long l1), .second, .val (.int m1), .val (.long ((10 : Int64) + l2)), .second, .val (.int m2), .val (.long ((20 : Int64) + l3)), .second, .val (.int (0 : Int32)), .unset, .unset, .unset]) rfl) ?_
          refine own_go (fun _ => XS.iload X14.here hx rfl (hb hby at_278) rfl) ?_
          refine own_go (fun _ => XS.istore X14.here hx rfl (hb hby at_280) rfl (l' := #[.val (.int x0), .val (.int x1), .val (.int x2), .val (.int x3), .val (.long l1), .second, .val (.long l2), .second, .val (.long l3), .second, .val (.int m1), .val (.int m2), .val (.int m3), .val (.int d), .val (.ref a1), .val (.ref a13), .val (.int (1 : Int32)), .val (.int (1 : Int32)), .val (.int (1 : Int32)), .val (.long l1), .second, .val (.int m1), .val (.long ((10 : Int64) + l2)), .second, .val (.int m2), .val (.long ((20 : Int64) + l3)), .second, .val (.int m3), .unset, .unset, .unset]) rfl) ?_
          refine own_go (fun _ => XS.goto X14.here hx rfl (pc0 := 282) (pc' := 322) rfl (hb hby at_282) (by decide) (by decide)) ?_
          show own_Go p e below _ (T14.setTop (mkF m 322 #[.val (.int x0), .val (.int x1), .val (.int x2), .val (.int x3), .val (.long l1), .second, .val (.long l2), .second, .val (.long l3), .second, .val (.int m1), .val (.int m2), .val (.int m3), .val (.int d), .val (.ref a1), .val (.ref a13), .val (.int (1 : Int32)), .val (.int (1 : Int32)), .val (.int (1 : Int32)), .val (.long l1), .second, .val (.int m1), .val (.long ((10 : Int64) + l2)), .second, .val (.int m2), .val (.long ((20 : Int64) + l3)), .second, .val (.int m3), .unset, .unset, .unset] []))
          exact G322 _ _ _ _ _ _ _ _ _ (by rw [hEE]; simp [own_keep, own_ans, hm0, hm1, hm2]) (by rw [hEE]; simp [own_keep, own_ans, hm0, hm1, hm2]) (by rw [hEE]; simp [own_keep, own_ans, hm0, hm1, hm2])
  refine own_go (fun _ => XS.iloadN X.here hx rfl (hb hby at_0) rfl) ?_
  refine own_go (fun _ => XT.i2l X.here hx rfl (hb hby at_1) rfl) ?_
  refine own_go (fun _ => XT.lstore X.here hx rfl (hb hby at_2) rfl (l' := #[.val (.int x0), .val (.int x1), .val (.int x2), .val (.int x3), .val (.long (x0.toInt64)), .second, .unset, .unset, .unset, .unset, .unset, .unset, .unset, .unset, .unset, .unset, .unset, .unset, .unset, .unset, .unset, .unset, .unset, .unset, .unset, .unset, .unset, .unset, .unset, .unset, .unset]) rfl) ?_
  refine own_go (fun _ => XT.lload X.here hx rfl (hb hby at_4) rfl) ?_
  refine own_go (fun _ => XT.lconst X.here hx rfl (hb hby at_6)) ?_
  refine own_go (fun _ => XT.ladd X.here hx rfl (hb hby at_7) rfl) ?_
  show own_Go p e below _ (T.setTop (mkF m 8 #[.val (.int x0), .val (.int x1), .val (.int x2), .val (.int x3), .val (.long (x0.toInt64)), .second, .unset, .unset, .unset, .unset, .unset, .unset, .unset, .unset, .unset, .unset, .unset, .unset, .unset, .unset, .unset, .unset, .unset, .unset, .unset, .unset, .unset, .unset, .unset, .unset, .unset] [(.long ((x0.toInt64) + (1 : Int64)))]))
  refine own_go (fun _ => XS.iloadN X.here hx rfl (hb hby at_8) rfl) ?_
  refine own_go (fun _ => XS.sipush X.here hx rfl (hb hby at_9)) ?_
  refine own_go (fun _ => XS.iand X.here hx rfl (hb hby at_12) rfl) ?_
  refine own_go (fun _ => XT.i2l X.here hx rfl (hb hby at_13) rfl) ?_
  refine own_go (fun _ => XT.ladd X.here hx rfl (hb hby at_14) rfl) ?_
  refine own_go (fun _ => XT.lstore X.here hx rfl (hb hby at_15) rfl (l' := #[.val (.int x0), .val (.int x1), .val (.int x2), .val (.int x3), .val (.long (x0.toInt64)), .second, .val (.long (((x0.toInt64) + (1 : Int64)) + ((x1 &&& (255 : Int32)).toInt64))), .second, .unset, .unset, .unset, .unset, .unset, .unset, .unset, .unset, .unset, .unset, .unset, .unset, .unset, .unset, .unset, .unset, .unset, .unset, .unset, .unset, .unset, .unset, .unset]) rfl) ?_
  show own_Go p e below _ (T.setTop (mkF m 17 #[.val (.int x0), .val (.int x1), .val (.int x2), .val (.int x3), .val (.long (x0.toInt64)), .second, .val (.long (((x0.toInt64) + (1 : Int64)) + ((x1 &&& (255 : Int32)).toInt64))), .second, .unset, .unset, .unset, .unset, .unset, .unset, .unset, .unset, .unset, .unset, .unset, .unset, .unset, .unset, .unset, .unset, .unset, .unset, .unset, .unset, .unset, .unset, .unset] []))
  refine own_go (fun _ => XT.lload X.here hx rfl (hb hby at_17) rfl) ?_
  refine own_go (fun _ => XT.lconst X.here hx rfl (hb hby at_19)) ?_
  refine own_go (fun _ => XT.ladd X.here hx rfl (hb hby at_20) rfl) ?_
  refine own_go (fun _ => XS.iloadN X.here hx rfl (hb hby at_21) rfl) ?_
  refine own_go (fun _ => XS.sipush X.here hx rfl (hb hby at_22)) ?_
  refine own_go (fun _ => XS.iand X.here hx rfl (hb hby at_25) rfl) ?_
  show own_Go p e below _ (T.setTop (mkF m 26 #[.val (.int x0), .val (.int x1), .val (.int x2), .val (.int x3), .val (.long (x0.toInt64)), .second, .val (.long (((x0.toInt64) + (1 : Int64)) + ((x1 &&& (255 : Int32)).toInt64))), .second, .unset, .unset, .unset, .unset, .unset, .unset, .unset, .unset, .unset, .unset, .unset, .unset, .unset, .unset, .unset, .unset, .unset, .unset, .unset, .unset, .unset, .unset, .unset] [(.int (x2 &&& (255 : Int32))), (.long ((((x0.toInt64) + (1 : Int64)) + ((x1 &&& (255 : Int32)).toInt64)) + (1 : Int64)))]))
  refine own_go (fun _ => XT.i2l X.here hx rfl (hb hby at_26) rfl) ?_
  refine own_go (fun _ => XT.ladd X.here hx rfl (hb hby at_27) rfl) ?_
  refine own_go (fun _ => XT.lstore X.here hx rfl (hb hby at_28) rfl (l' := #[.val (.int x0), .val (.int x1), .val (.int x2), .val (.int x3), .val (.long (x0.toInt64)), .second, .val (.long (((x0.toInt64) + (1 : Int64)) + ((x1 &&& (255 : Int32)).toInt64))), .second, .val (.long (((((x0.toInt64) + (1 : Int64)) + ((x1 &&& (255 : Int32)).toInt64)) + (1 : Int64)) + ((x2 &&& (255 : Int32)).toInt64))), .second, .unset, .unset, .unset, .unset, .unset, .unset, .unset, .unset, .unset, .unset, .unset, .unset, .unset, .unset, .unset, .unset, .unset, .unset, .unset, .unset, .unset]) rfl) ?_
  refine own_go (fun _ => XS.iloadN X.here hx rfl (hb hby at_30) rfl) ?_
  refine own_go (fun _ => XS.iconst X.here hx rfl (hb hby at_31)) ?_
  refine own_go (fun _ => XS.iand X.here hx rfl (hb hby at_32) rfl) ?_
  show own_Go p e below _ (T.setTop (mkF m 33 #[.val (.int x0), .val (.int x1), .val (.int x2), .val (.int x3), .val (.long (x0.toInt64)), .second, .val (.long (((x0.toInt64) + (1 : Int64)) + ((x1 &&& (255 : Int32)).toInt64))), .second, .val (.long (((((x0.toInt64) + (1 : Int64)) + ((x1 &&& (255 : Int32)).toInt64)) + (1 : Int64)) + ((x2 &&& (255 : Int32)).toInt64))), .second, .unset, .unset, .unset, .unset, .unset, .unset, .unset, .unset, .unset, .unset, .unset, .unset, .unset, .unset, .unset, .unset, .unset, .unset, .unset, .unset, .unset] [(.int (x3 &&& (3 : Int32)))]))
  refine own_go (fun _ => XS.istore X.here hx rfl (hb hby at_33) rfl (l' := #[.val (.int x0), .val (.int x1), .val (.int x2), .val (.int x3), .val (.long (x0.toInt64)), .second, .val (.long (((x0.toInt64) + (1 : Int64)) + ((x1 &&& (255 : Int32)).toInt64))), .second, .val (.long (((((x0.toInt64) + (1 : Int64)) + ((x1 &&& (255 : Int32)).toInt64)) + (1 : Int64)) + ((x2 &&& (255 : Int32)).toInt64))), .second, .val (.int (x3 &&& (3 : Int32))), .unset, .unset, .unset, .unset, .unset, .unset, .unset, .unset, .unset, .unset, .unset, .unset, .unset, .unset, .unset, .unset, .unset, .unset, .unset, .unset]) rfl) ?_
  refine own_go (fun _ => XS.iloadN X.here hx rfl (hb hby at_35) rfl) ?_
  refine own_go (fun _ => XS.iconst X.here hx rfl (hb hby at_36)) ?_
  refine own_go (fun _ => XT.iushr X.here hx rfl (hb hby at_37) rfl) ?_
  refine own_go (fun _ => XS.iconst X.here hx rfl (hb hby at_38)) ?_
  refine own_go (fun _ => XS.iand X.here hx rfl (hb hby at_39) rfl) ?_
  show own_Go p e below _ (T.setTop (mkF m 40 #[.val (.int x0), .val (.int x1), .val (.int x2), .val (.int x3), .val (.long (x0.toInt64)), .second, .val (.long (((x0.toInt64) + (1 : Int64)) + ((x1 &&& (255 : Int32)).toInt64))), .second, .val (.long (((((x0.toInt64) + (1 : Int64)) + ((x1 &&& (255 : Int32)).toInt64)) + (1 : Int64)) + ((x2 &&& (255 : Int32)).toInt64))), .second, .val (.int (x3 &&& (3 : Int32))), .unset, .unset, .unset, .unset, .unset, .unset, .unset, .unset, .unset, .unset, .unset, .unset, .unset, .unset, .unset, .unset, .unset, .unset, .unset, .unset] [(.int ((XT.ushr x3 (2 : Int32)) &&& (3 : Int32)))]))
  refine own_go (fun _ => XS.istore X.here hx rfl (hb hby at_40) rfl (l' := #[.val (.int x0), .val (.int x1), .val (.int x2), .val (.int x3), .val (.long (x0.toInt64)), .second, .val (.long (((x0.toInt64) + (1 : Int64)) + ((x1 &&& (255 : Int32)).toInt64))), .second, .val (.long (((((x0.toInt64) + (1 : Int64)) + ((x1 &&& (255 : Int32)).toInt64)) + (1 : Int64)) + ((x2 &&& (255 : Int32)).toInt64))), .second, .val (.int (x3 &&& (3 : Int32))), .val (.int ((XT.ushr x3 (2 : Int32)) &&& (3 : Int32))), .unset, .unset, .unset, .unset, .unset, .unset, .unset, .unset, .unset, .unset, .unset, .unset, .unset, .unset, .unset, .unset, .unset, .unset, .unset]) rfl) ?_
  refine own_go (fun _ => XS.iloadN X.here hx rfl (hb hby at_42) rfl) ?_
  refine own_go (fun _ => XS.iconst X.here hx rfl (hb hby at_43)) ?_
  refine own_go (fun _ => XT.iushr X.here hx rfl (hb hby at_44) rfl) ?_
  refine own_go (fun _ => XS.iconst X.here hx rfl (hb hby at_45)) ?_
  refine own_go (fun _ => XS.iand X.here hx rfl (hb hby at_46) rfl) ?_
  show own_Go p e below _ (T.setTop (mkF m 47 #[.val (.int x0), .val (.int x1), .val (.int x2), .val (.int x3), .val (.long (x0.toInt64)), .second, .val (.long (((x0.toInt64) + (1 : Int64)) + ((x1 &&& (255 : Int32)).toInt64))), .second, .val (.long (((((x0.toInt64) + (1 : Int64)) + ((x1 &&& (255 : Int32)).toInt64)) + (1 : Int64)) + ((x2 &&& (255 : Int32)).toInt64))), .second, .val (.int (x3 &&& (3 : Int32))), .val (.int ((XT.ushr x3 (2 : Int32)) &&& (3 : Int32))), .unset, .unset, .unset, .unset, .unset, .unset, .unset, .unset, .unset, .unset, .unset, .unset, .unset, .unset, .unset, .unset, .unset, .unset, .unset] [(.int ((XT.ushr x3 (4 : Int32)) &&& (3 : Int32)))]))
  refine own_go (fun _ => XS.istore X.here hx rfl (hb hby at_47) rfl (l' := #[.val (.int x0), .val (.int x1), .val (.int x2), .val (.int x3), .val (.long (x0.toInt64)), .second, .val (.long (((x0.toInt64) + (1 : Int64)) + ((x1 &&& (255 : Int32)).toInt64))), .second, .val (.long (((((x0.toInt64) + (1 : Int64)) + ((x1 &&& (255 : Int32)).toInt64)) + (1 : Int64)) + ((x2 &&& (255 : Int32)).toInt64))), .second, .val (.int (x3 &&& (3 : Int32))), .val (.int ((XT.ushr x3 (2 : Int32)) &&& (3 : Int32))), .val (.int ((XT.ushr x3 (4 : Int32)) &&& (3 : Int32))), .unset, .unset, .unset, .unset, .unset, .unset, .unset, .unset, .unset, .unset, .unset, .unset, .unset, .unset, .unset, .unset, .unset, .unset]) rfl) ?_
  refine own_go (fun _ => XS.iloadN X.here hx rfl (hb hby at_49) rfl) ?_
  refine own_go (fun _ => XS.bipush X.here hx rfl (hb hby at_50)) ?_
  refine own_go (fun _ => XT.iushr X.here hx rfl (hb hby at_52) rfl) ?_
  refine own_go (fun _ => XS.iconst X.here hx rfl (hb hby at_53)) ?_
  refine own_go (fun _ => XS.iand X.here hx rfl (hb hby at_54) rfl) ?_
  show own_Go p e below _ (T.setTop (mkF m 55 #[.val (.int x0), .val (.int x1), .val (.int x2), .val (.int x3), .val (.long (x0.toInt64)), .second, .val (.long (((x0.toInt64) + (1 : Int64)) + ((x1 &&& (255 : Int32)).toInt64))), .second, .val (.long (((((x0.toInt64) + (1 : Int64)) + ((x1 &&& (255 : Int32)).toInt64)) + (1 : Int64)) + ((x2 &&& (255 : Int32)).toInt64))), .second, .val (.int (x3 &&& (3 : Int32))), .val (.int ((XT.ushr x3 (2 : Int32)) &&& (3 : Int32))), .val (.int ((XT.ushr x3 (4 : Int32)) &&& (3 : Int32))), .unset, .unset, .unset, .unset, .unset, .unset, .unset, .unset, .unset, .unset, .unset, .unset, .unset, .unset, .unset, .unset, .unset, .unset] [(.int ((XT.ushr x3 (6 : Int32)) &&& (3 : Int32)))]))
  refine own_go (fun _ => XS.istore X.here hx rfl (hb hby at_55) rfl (l' := #[.val (.int x0), .val (.int x1), .val (.int x2), .val (.int x3), .val (.long (x0.toInt64)), .second, .val (.long (((x0.toInt64) + (1 : Int64)) + ((x1 &&& (255 : Int32)).toInt64))), .second, .val (.long (((((x0.toInt64) + (1 : Int64)) + ((x1 &&& (255 : Int32)).toInt64)) + (1 : Int64)) + ((x2 &&& (255 : Int32)).toInt64))), .second, .val (.int (x3 &&& (3 : Int32))), .val (.int ((XT.ushr x3 (2 : Int32)) &&& (3 : Int32))), .val (.int ((XT.ushr x3 (4 : Int32)) &&& (3 : Int32))), .val (.int ((XT.ushr x3 (6 : Int32)) &&& (3 : Int32))), .unset, .unset, .unset, .unset, .unset, .unset, .unset, .unset, .unset, .unset, .unset, .unset, .unset, .unset, .unset, .unset, .unset]) rfl) ?_
  have w1 : -2147483648 ≤ (x0.toInt64).toInt ∧ (x0.toInt64).toInt ≤ 2147483647 := by rw [c_i2l]; have := x0.toInt_lt; have := x0.le_toInt; omega
  have w2 := own_step (x0.toInt64) x1 2147483647 w1 (by decide)
  have w3 := own_step (((x0.toInt64) + (1 : Int64)) + ((x1 &&& (255 : Int32)).toInt64)) x2 (2147483647 + 256) w2.2 (by decide)
  exact tail _ _ _ _ _ _ _ ⟨w1.1, by omega⟩ ⟨w2.2.1, by omega⟩ ⟨w3.2.1, by omega⟩ w2.1 w3.1
set_option maxRecDepth 65536 in
set_option maxHeartbeats 40000000 in
theorem comes_1 {Post : Tables → Env → Array Value → State → Outcome → State → Prop} (hpost : ∀ tb e args s v u, (limb_1_1.after args s (.returned v) u = true ∧ limb_1_2.after args s (.returned v) u = true ∧ True) → FrameEnd s (.returned v) u (Jvm.fieldLocs frame_1_writes args s ++ Jvm.arrayLocs frame_1_arrays args s ++ Jvm.staticLocs frame_1_statics s) 32 192 → Post tb e args s (.returned v) u) :
    ArmFor flags0 classFile x code maxLocals ret World_1 tables_1 room_1 Calls_1 rest_1 Pre_1 Post := by
  intro l hfl _ _ p e ha hc hk s m args below hf hA hF happ hP
  obtain ⟨hcalls, hrest, hpre⟩ := hP
  obtain ⟨-, -, -, hnamed, -, -, -, hat⟩ := (Spec.applies_iff hf).mp happ
  obtain ⟨hg, hn⟩ := and_e (Cond.before_iff.mp (show (Jvm.Cond.and given_1 narrow_1).before args s = true from hpre))
  obtain ⟨gc, gr0⟩ := and_e hg
  obtain ⟨g0, gr1⟩ := and_e gr0
  obtain ⟨g1, gr2⟩ := and_e gr1
  obtain ⟨g2, gr3⟩ := and_e gr2
  obtain ⟨w0, w1, w2, w3, rfl⟩ : ∃ w0 w1 w2 w3 : Value, args = #[w0, w1, w2, w3] := by
    have hs : args.size = 4 := by simpa [Cond.value, given_1] using gc
    obtain ⟨L⟩ := args
    match L, hs with
    | [w0, w1, w2, w3], _ => exact ⟨w0, w1, w2, w3, rfl⟩
  have hw := fun d (hd : d ∈ tables_1) => atoms_spec (ws := Jvm.Cond.code x code maxLocals ret :: tables_1) hat d (List.mem_cons_of_mem _ hd)
  have hfit : Fit s := fun {y c} hc i hi => by
    obtain ⟨ha, rfl⟩ := Array.getElem?_eq_some_iff.mp hc
    have q := List.all_eq_true.mp ((Array.all_eq_true_iff_forall_mem.mp hF) _ (Array.getElem_mem ha)) i (List.mem_range.mpr hi)
    simpa [Array.getElem?_eq_getElem hi] using q
  obtain ⟨i0, ei0⟩ := is_v g0
  obtain rfl : w0 = (.int i0) := Option.some.inj ei0
  obtain ⟨i1, ei1⟩ := is_v g1
  obtain rfl : w1 = (.int i1) := Option.some.inj ei1
  obtain ⟨i2, ei2⟩ := is_v g2
  obtain rfl : w2 = (.int i2) := Option.some.inj ei2
  obtain ⟨i3, ei3⟩ := is_v gr3
  obtain rfl : w3 = (.int i3) := Option.some.inj ei3
  obtain ⟨n, o, h1, h2, h3, _, L, rfl, ⟨rfl, N⟩, hq⟩ := own_main_con l s _ hw i0 i1 i2 i3  s.heap tables_1 p e ha hc hk s m _ below hf ((Spec.applies_iff_loose hf).mp happ).1 ⟨rfl, State.Warmed39.refl s, rfl⟩ trivial
  refine ⟨n, _, h1, h2, h3, hpost _ _ _ _ _ _ ⟨Cond.after_iff.mpr rfl, Cond.after_iff.mpr (eq_i res_at (Term.int_eval (1)) rfl), trivial⟩ ⟨hq.1, hq.2.1, (hq.2.2.sift fun y hy => Or.inr (N y hy)).mono (by decide) (by decide)⟩⟩
theorem main_1_1 : Claimed_1_1 := comes_1 fun _ _ _ _ _ _ h hF => ⟨h.1, hF⟩
theorem main_1_2 : Claimed_1_2 := comes_1 fun _ _ _ _ _ _ h hF => ⟨h.2.1, hF⟩
end Jvm.Pilot.@@N@@
namespace Jvm.Pilot.@@N@@
open Jvm Jvm.ClassFile Sem Op Lib Jvm.Free Jvm.Stand Jvm.Pilot.@@N@@.Jvm.D
/-! MADE BY PROGRAM (witnessworld.py) out of the Statement's table words and the real class files: 19 classes; the members and pool entries that the words name. The judged class is class 1, her method 2. -/
namespace start1
open Jvm.ClassFile
def u (s : String) : CpInfo := .utf8 (stringToUtf16 s)
/-- a pool by its gaps: so many unusable entries, then the entry; so many at the end -/
def gap : Nat → List CpInfo → List CpInfo
  | 0, r => r
  | n + 1, r => .unusable :: gap n r
def poolList (es : List (Nat × CpInfo)) (last : Nat) : List CpInfo := es.foldr (fun e r => gap e.1 (e.2 :: r)) (gap last [])
def pool (es : List (Nat × CpInfo)) (last : Nat) : Array CpInfo := ⟨poolList es last⟩
def fileOf (pool : Array CpInfo) (this : Nat) (attrs : Array Attribute := #[]) (ms : Array MethodInfo := #[]) (fl : Nat := 33) (sup : Nat := 0) (ifs : Array Nat := #[]) (fds : Array FieldInfo := #[]) : ClassFile where
  minorVersion := 0
  majorVersion := 65
  constantPool := pool
  accessFlags := fl
  thisClass := this
  superClass := sup
  interfaces := ifs
  fields := fds
  methods := ms
  attributes := attrs
def plain (name : String) (sup : Option ClassId) : Class where
  name := name
  kind := .ordinary
  loader := none
  accessFlags := 33
  super := sup
  interfaces := #[]
  cf := none
  fields := #[]
  methods := #[]
  instanceTypes := #[]
  staticTypes := #[]
  resolved := #[]
  callSites := []
  init := .initialized
  statics := none
  mirror := none

def pool0 : Array CpInfo := pool [(5, u "<init>"), (0, u "()V"), (1, .class_ 10), (1, u "java/lang/Object")] 113

def k0c0 : Code := { maxStack := 0, maxLocals := 1, code := object_method_1_code, exceptionTable := #[], attributes := #[] }
def k0m0 : Method := { name := "<init>", desc := "()V", sig := { parameters := [], returnType := none }, accessFlags := 1, code := some k0c0 }
/-- java/lang/Object -/
def k0 : Class := { plain "java/lang/Object" none with
  accessFlags := 33
  interfaces := #[]
  cf := some (fileOf pool0 8 #[] #[{ accessFlags := 1, nameIndex := 5, descriptorIndex := 6, attributes := #[] }] 33 0 #[] #[])
  fields := #[]
  methods := #[k0m0]
  instanceTypes := #[]
  staticTypes := #[]
  resolved := Array.replicate 124 none
  statics := none }

def pool1 : Array CpInfo := pool [(2, .class_ 4), (0, .nameAndType 5 6), (0, u "java/lang/Object"), (0, u "<init>"), (0, u "()V"), (0, .methodref 8 9), (0, .class_ 10), (0, .nameAndType 11 12), (0, u "tidemark/model/Stamp"), (0, u "counter"), (0, u "()J"), (0, .methodref 8 14), (0, .nameAndType 15 16), (0, u "member"), (0, u "()I"), (0, .class_ 18), (0, u "tidemark/protocol/Raises"), (0, .methodref 17 3), (0, .methodref 8 21), (0, .nameAndType 5 22), (0, u "(JI)V"), (0, .methodref 17 24), (0, .nameAndType 25 26), (0, u "add"), (0, u "(JLtidemark/model/Stamp;)V"), (0, .long 10), (1, .long 20), (1, .methodref 17 32), (0, .nameAndType 33 34), (0, u "forget"), (0, u "(I)V"), (2, .long 9223372036854775808), (1, .methodref 17 40), (0, .nameAndType 41 42), (0, u "stamp"), (0, u "(JLtidemark/model/Stamp;)Ltidemark/model/Stamp;"), (0, .methodref 44 45), (0, .class_ 46), (0, .nameAndType 47 48), (0, u "tidemark/protocol/RaisesForgetPinLaw"), (0, u "same"), (0, u "(Ltidemark/model/Stamp;JI)Z"), (3, u "law"), (0, u "(IIII)Z")] 2

def k1m0 : Method := { name := "<init>", desc := "()V", sig := { parameters := [], returnType := none }, accessFlags := 1, code := none }
def k1c1 : Code := { maxStack := 4, maxLocals := 4, code := method_2_code, exceptionTable := #[], attributes := #[] }
def k1m1 : Method := { name := "same", desc := "(Ltidemark/model/Stamp;JI)Z", sig := { parameters := [(.object "tidemark/model/Stamp"), .long, .int], returnType := some .boolean }, accessFlags := 10, code := some k1c1 }
def k1c2 : Code := { maxStack := 9, maxLocals := 31, code := code, exceptionTable := #[], attributes := #[] }
def k1m2 : Method := { name := "law", desc := "(IIII)Z", sig := { parameters := [.int, .int, .int, .int], returnType := some .boolean }, accessFlags := 9, code := some k1c2 }
/-- tidemark/protocol/RaisesForgetPinLaw -/
def k1 : Class := { plain "tidemark/protocol/RaisesForgetPinLaw" (some 0) with
  accessFlags := 49
  interfaces := #[]
  cf := some (fileOf pool1 44 #[] #[{ accessFlags := 1, nameIndex := 5, descriptorIndex := 6, attributes := #[] }, { accessFlags := 10, nameIndex := 47, descriptorIndex := 48, attributes := #[] }, { accessFlags := 9, nameIndex := 52, descriptorIndex := 53, attributes := #[] }] 49 2 #[] #[])
  fields := #[]
  methods := #[k1m0, k1m1, k1m2]
  instanceTypes := #[]
  staticTypes := #[]
  resolved := Array.replicate 56 none
  statics := none }

def pool2 : Array CpInfo := pool [(1, .methodref 2 3), (0, .class_ 4), (0, .nameAndType 5 6), (0, u "java/lang/Object"), (0, u "<init>"), (0, u "()V"), (0, .fieldref 8 9), (0, .class_ 10), (0, .nameAndType 11 12), (0, u "tidemark/protocol/Raises"), (0, u "from"), (0, u "[J"), (0, .fieldref 8 14), (0, .nameAndType 15 12), (0, u "lead"), (0, .fieldref 8 17), (0, .nameAndType 18 19), (0, u "member"), (0, u "[I"), (0, .methodref 21 22), (0, .class_ 23), (0, .nameAndType 24 25), (0, u "tidemark/model/Stamp"), (0, u "counter"), (0, u "()J"), (0, .methodref 21 27), (0, .nameAndType 18 28), (0, u "()I"), (0, .fieldref 8 30), (0, .nameAndType 31 32), (0, u "end"), (0, u "I"), (3, .methodref 8 37), (0, .nameAndType 38 39), (0, u "floor"), (0, u "(J)I"), (0, .fieldref 8 41), (0, .nameAndType 42 32), (0, u "start"), (0, .methodref 8 44), (0, .nameAndType 45 46), (0, u "compare"), (0, u "(IJI)I"), (0, .methodref 48 49), (0, .class_ 50), (0, .nameAndType 51 52), (0, u "java/lang/System"), (0, u "arraycopy"), (0, u "(Ljava/lang/Object;ILjava/lang/Object;II)V"), (0, .methodref 21 54), (0, .nameAndType 5 55), (0, u "(JI)V"), (0, .methodref 21 57), (0, .nameAndType 58 59), (0, u "isAfter"), (0, u "(Ltidemark/model/Stamp;)Z"), (0, .methodref 61 62), (0, .class_ 63), (0, .nameAndType 45 64), (0, u "java/lang/Long"), (0, u "(JJ)I"), (16, u "add"), (0, u "(JLtidemark/model/Stamp;)V"), (1, u "stamp"), (0, u "(JLtidemark/model/Stamp;)Ltidemark/model/Stamp;"), (0, u "forget"), (0, u "(I)V")] 4

def k2c0 : Code := { maxStack := 2, maxLocals := 1, code := prog_79_method_1_code, exceptionTable := #[], attributes := #[] }
def k2m0 : Method := { name := "<init>", desc := "()V", sig := { parameters := [], returnType := none }, accessFlags := 0, code := some k2c0 }
def k2c1 : Code := { maxStack := 6, maxLocals := 10, code := prog_79_method_2_code, exceptionTable := #[], attributes := #[] }
def k2m1 : Method := { name := "add", desc := "(JLtidemark/model/Stamp;)V", sig := { parameters := [.long, (.object "tidemark/model/Stamp")], returnType := none }, accessFlags := 0, code := some k2c1 }
def k2c2 : Code := { maxStack := 6, maxLocals := 7, code := prog_79_method_3_code, exceptionTable := #[], attributes := #[] }
def k2m2 : Method := { name := "stamp", desc := "(JLtidemark/model/Stamp;)Ltidemark/model/Stamp;", sig := { parameters := [.long, (.object "tidemark/model/Stamp")], returnType := some (.object "tidemark/model/Stamp") }, accessFlags := 0, code := some k2c2 }
def k2c3 : Code := { maxStack := 4, maxLocals := 4, code := prog_79_method_4_code, exceptionTable := #[], attributes := #[] }
def k2m3 : Method := { name := "forget", desc := "(I)V", sig := { parameters := [.int], returnType := none }, accessFlags := 0, code := some k2c3 }
def k2c4 : Code := { maxStack := 4, maxLocals := 6, code := prog_79_method_6_code, exceptionTable := #[], attributes := #[] }
def k2m4 : Method := { name := "floor", desc := "(J)I", sig := { parameters := [.long], returnType := some .int }, accessFlags := 2, code := some k2c4 }
def k2c5 : Code := { maxStack := 4, maxLocals := 6, code := prog_79_method_7_code, exceptionTable := #[], attributes := #[] }
def k2m5 : Method := { name := "compare", desc := "(IJI)I", sig := { parameters := [.int, .long, .int], returnType := some .int }, accessFlags := 2, code := some k2c5 }
/-- tidemark/protocol/Raises -/
def k2 : Class := { plain "tidemark/protocol/Raises" (some 0) with
  accessFlags := 48
  interfaces := #[]
  cf := some (fileOf pool2 8 #[] #[{ accessFlags := 0, nameIndex := 5, descriptorIndex := 6, attributes := #[] }, { accessFlags := 0, nameIndex := 81, descriptorIndex := 82, attributes := #[] }, { accessFlags := 0, nameIndex := 84, descriptorIndex := 85, attributes := #[] }, { accessFlags := 0, nameIndex := 86, descriptorIndex := 87, attributes := #[] }, { accessFlags := 2, nameIndex := 38, descriptorIndex := 39, attributes := #[] }, { accessFlags := 2, nameIndex := 45, descriptorIndex := 46, attributes := #[] }] 48 2 #[] #[{ accessFlags := 2, nameIndex := 11, descriptorIndex := 12, attributes := #[] }, { accessFlags := 2, nameIndex := 15, descriptorIndex := 12, attributes := #[] }, { accessFlags := 2, nameIndex := 18, descriptorIndex := 19, attributes := #[] }, { accessFlags := 2, nameIndex := 42, descriptorIndex := 32, attributes := #[] }, { accessFlags := 2, nameIndex := 31, descriptorIndex := 32, attributes := #[] }])
  fields := #[{ name := "from", type := (.array .long), accessFlags := 2, slot := 0, constantValue := 0 }, { name := "lead", type := (.array .long), accessFlags := 2, slot := 1, constantValue := 0 }, { name := "member", type := (.array .int), accessFlags := 2, slot := 2, constantValue := 0 }, { name := "start", type := .int, accessFlags := 2, slot := 3, constantValue := 0 }, { name := "end", type := .int, accessFlags := 2, slot := 4, constantValue := 0 }]
  methods := #[k2m0, k2m1, k2m2, k2m3, k2m4, k2m5]
  instanceTypes := #[(.array .long), (.array .long), (.array .int), .int, .int]
  staticTypes := #[]
  resolved := Array.replicate 92 none
  statics := none }

def pool3 : Array CpInfo := pool [(1, .methodref 2 3), (0, .class_ 4), (0, .nameAndType 5 6), (0, u "java/lang/Object"), (0, u "<init>"), (0, u "()V"), (0, .class_ 8), (0, u "java/lang/Record")] 13

def k3c0 : Code := { maxStack := 1, maxLocals := 1, code := jdk_30_method_1_code, exceptionTable := #[], attributes := #[] }
def k3m0 : Method := { name := "<init>", desc := "()V", sig := { parameters := [], returnType := none }, accessFlags := 4, code := some k3c0 }
/-- java/lang/Record -/
def k3 : Class := { plain "java/lang/Record" (some 0) with
  accessFlags := 1057
  interfaces := #[]
  cf := some (fileOf pool3 7 #[] #[{ accessFlags := 4, nameIndex := 5, descriptorIndex := 6, attributes := #[] }] 1057 2 #[] #[])
  fields := #[]
  methods := #[k3m0]
  instanceTypes := #[]
  staticTypes := #[]
  resolved := Array.replicate 22 none
  statics := none }

def pool4 : Array CpInfo := pool [(1, .class_ 2), (0, u "java/lang/Comparable"), (0, .class_ 4), (0, u "java/lang/Object")] 7

/-- java/lang/Comparable -/
def k4 : Class := { plain "java/lang/Comparable" (some 0) with
  accessFlags := 1537
  interfaces := #[]
  cf := some (fileOf pool4 1 #[] #[] 1537 3 #[] #[])
  fields := #[]
  methods := #[]
  instanceTypes := #[]
  staticTypes := #[]
  resolved := Array.replicate 12 none
  statics := none }

def pool5 : Array CpInfo := pool [(1, .methodref 2 3), (0, .class_ 4), (0, .nameAndType 5 6), (0, u "java/lang/Record"), (0, u "<init>"), (0, u "()V"), (0, .fieldref 8 9), (0, .class_ 10), (0, .nameAndType 11 12), (0, u "tidemark/model/Stamp"), (0, u "counter"), (0, u "J"), (0, .fieldref 8 14), (0, .nameAndType 15 16), (0, u "member"), (0, u "I"), (0, .methodref 18 19), (0, .class_ 20), (0, .nameAndType 21 22), (0, u "java/lang/Long"), (0, u "compare"), (0, u "(JJ)I"), (5, .methodref 8 29), (0, .nameAndType 30 31), (0, u "compareTo"), (0, u "(Ltidemark/model/Stamp;)I"), (11, .class_ 44), (0, u "java/lang/Comparable"), (0, u "(JI)V"), (4, u "isAfter"), (0, u "(Ltidemark/model/Stamp;)Z"), (1, u "()I"), (1, u "()J")] 24

def k5c0 : Code := { maxStack := 3, maxLocals := 4, code := prog_50_method_1_code, exceptionTable := #[], attributes := #[] }
def k5m0 : Method := { name := "<init>", desc := "(JI)V", sig := { parameters := [.long, .int], returnType := none }, accessFlags := 1, code := some k5c0 }
def k5c1 : Code := { maxStack := 4, maxLocals := 3, code := prog_50_method_2_code, exceptionTable := #[], attributes := #[] }
def k5m1 : Method := { name := "compareTo", desc := "(Ltidemark/model/Stamp;)I", sig := { parameters := [(.object "tidemark/model/Stamp")], returnType := some .int }, accessFlags := 1, code := some k5c1 }
def k5c2 : Code := { maxStack := 2, maxLocals := 2, code := prog_50_method_3_code, exceptionTable := #[], attributes := #[] }
def k5m2 : Method := { name := "isAfter", desc := "(Ltidemark/model/Stamp;)Z", sig := { parameters := [(.object "tidemark/model/Stamp")], returnType := some .boolean }, accessFlags := 1, code := some k5c2 }
def k5c3 : Code := { maxStack := 2, maxLocals := 1, code := prog_50_method_7_code, exceptionTable := #[], attributes := #[] }
def k5m3 : Method := { name := "counter", desc := "()J", sig := { parameters := [], returnType := some .long }, accessFlags := 1, code := some k5c3 }
def k5c4 : Code := { maxStack := 1, maxLocals := 1, code := prog_50_method_8_code, exceptionTable := #[], attributes := #[] }
def k5m4 : Method := { name := "member", desc := "()I", sig := { parameters := [], returnType := some .int }, accessFlags := 1, code := some k5c4 }
/-- tidemark/model/Stamp -/
def k5 : Class := { plain "tidemark/model/Stamp" (some 3) with
  accessFlags := 49
  interfaces := #[4]
  cf := some (fileOf pool5 8 #[] #[{ accessFlags := 1, nameIndex := 5, descriptorIndex := 45, attributes := #[] }, { accessFlags := 1, nameIndex := 30, descriptorIndex := 31, attributes := #[] }, { accessFlags := 1, nameIndex := 50, descriptorIndex := 51, attributes := #[] }, { accessFlags := 1, nameIndex := 11, descriptorIndex := 55, attributes := #[] }, { accessFlags := 1, nameIndex := 15, descriptorIndex := 53, attributes := #[] }] 49 2 #[43] #[{ accessFlags := 18, nameIndex := 11, descriptorIndex := 12, attributes := #[] }, { accessFlags := 18, nameIndex := 15, descriptorIndex := 16, attributes := #[] }])
  fields := #[{ name := "counter", type := .long, accessFlags := 18, slot := 0, constantValue := 0 }, { name := "member", type := .int, accessFlags := 18, slot := 1, constantValue := 0 }]
  methods := #[k5m0, k5m1, k5m2, k5m3, k5m4]
  instanceTypes := #[.long, .int]
  staticTypes := #[]
  resolved := Array.replicate 80 none
  statics := none }

def pool6 : Array CpInfo := pool [(2, .class_ 4), (1, u "java/lang/Object"), (0, u "<init>"), (0, u "()V"), (1, .class_ 10), (1, u "java/lang/System"), (0, u "allowSecurityManager"), (0, u "I"), (16, u "cons"), (0, u "Ljava/io/Console;"), (77, .class_ 110), (1, u "java/lang/System$CallersHolder"), (43, u "initialErrStream"), (0, u "Ljava/io/PrintStream;"), (19, u "security"), (0, u "Ljava/lang/SecurityManager;"), (31, .class_ 209), (0, u "java/lang/System$1"), (7, u "props"), (0, u "Ljava/util/Properties;"), (2, u "lineSeparator"), (0, u "Ljava/lang/String;"), (96, .class_ 321), (1, u "java/lang/System$LoggerFinder"), (5, .class_ 328), (0, u "java/lang/System$Logger"), (67, u "err"), (2, u "out"), (91, u "notSupportedJnuEncoding"), (15, u "in"), (17, u "initialIn"), (0, u "Ljava/io/InputStream;"), (35, u "bootLayer"), (0, u "Ljava/lang/ModuleLayer;"), (99, .class_ 664), (0, u "java/lang/System$2"), (9, u "NEVER"), (2, u "MAYBE"), (49, u "arraycopy"), (0, u "(Ljava/lang/Object;ILjava/lang/Object;II)V"), (72, .class_ 802), (0, u "java/lang/System$Logger$Level")] 31

def k6m0 : Method := { name := "<init>", desc := "()V", sig := { parameters := [], returnType := none }, accessFlags := 2, code := none }
def k6m1 : Method := { name := "arraycopy", desc := "(Ljava/lang/Object;ILjava/lang/Object;II)V", sig := { parameters := [(.object "java/lang/Object"), .int, (.object "java/lang/Object"), .int, .int], returnType := none }, accessFlags := 265, code := none }
/-- java/lang/System -/
def k6 : Class := { plain "java/lang/System" (some 0) with
  accessFlags := 49
  interfaces := #[]
  cf := some (fileOf pool6 8 #[.nestMembers #[319, 327, 801, 108, 663, 208]] #[{ accessFlags := 2, nameIndex := 5, descriptorIndex := 6, attributes := #[] }, { accessFlags := 265, nameIndex := 727, descriptorIndex := 728, attributes := #[] }] 49 2 #[] #[{ accessFlags := 25, nameIndex := 507, descriptorIndex := 526, attributes := #[] }, { accessFlags := 25, nameIndex := 399, descriptorIndex := 155, attributes := #[] }, { accessFlags := 25, nameIndex := 396, descriptorIndex := 155, attributes := #[] }, { accessFlags := 10, nameIndex := 525, descriptorIndex := 526, attributes := #[] }, { accessFlags := 26, nameIndex := 674, descriptorIndex := 12, attributes := #[] }, { accessFlags := 26, nameIndex := 677, descriptorIndex := 12, attributes := #[] }, { accessFlags := 10, nameIndex := 11, descriptorIndex := 12, attributes := #[] }, { accessFlags := 74, nameIndex := 175, descriptorIndex := 176, attributes := #[] }, { accessFlags := 10, nameIndex := 491, descriptorIndex := 222, attributes := #[] }, { accessFlags := 74, nameIndex := 29, descriptorIndex := 30, attributes := #[] }, { accessFlags := 74, nameIndex := 154, descriptorIndex := 155, attributes := #[] }, { accessFlags := 10, nameIndex := 217, descriptorIndex := 218, attributes := #[] }, { accessFlags := 10, nameIndex := 221, descriptorIndex := 222, attributes := #[] }, { accessFlags := 8, nameIndex := 562, descriptorIndex := 563, attributes := #[] }])
  fields := #[{ name := "in", type := (.object "java/io/InputStream"), accessFlags := 25, slot := 0, constantValue := 0 }, { name := "out", type := (.object "java/io/PrintStream"), accessFlags := 25, slot := 1, constantValue := 0 }, { name := "err", type := (.object "java/io/PrintStream"), accessFlags := 25, slot := 2, constantValue := 0 }, { name := "initialIn", type := (.object "java/io/InputStream"), accessFlags := 10, slot := 3, constantValue := 0 }, { name := "NEVER", type := .int, accessFlags := 26, slot := 4, constantValue := 0 }, { name := "MAYBE", type := .int, accessFlags := 26, slot := 5, constantValue := 0 }, { name := "allowSecurityManager", type := .int, accessFlags := 10, slot := 6, constantValue := 0 }, { name := "security", type := (.object "java/lang/SecurityManager"), accessFlags := 74, slot := 7, constantValue := 0 }, { name := "notSupportedJnuEncoding", type := (.object "java/lang/String"), accessFlags := 10, slot := 8, constantValue := 0 }, { name := "cons", type := (.object "java/io/Console"), accessFlags := 74, slot := 9, constantValue := 0 }, { name := "initialErrStream", type := (.object "java/io/PrintStream"), accessFlags := 74, slot := 10, constantValue := 0 }, { name := "props", type := (.object "java/util/Properties"), accessFlags := 10, slot := 11, constantValue := 0 }, { name := "lineSeparator", type := (.object "java/lang/String"), accessFlags := 10, slot := 12, constantValue := 0 }, { name := "bootLayer", type := (.object "java/lang/ModuleLayer"), accessFlags := 8, slot := 13, constantValue := 0 }]
  methods := #[k6m0, k6m1]
  instanceTypes := #[]
  staticTypes := #[(.object "java/io/InputStream"), (.object "java/io/PrintStream"), (.object "java/io/PrintStream"), (.object "java/io/InputStream"), .int, .int, .int, (.object "java/lang/SecurityManager"), (.object "java/lang/String"), (.object "java/io/Console"), (.object "java/io/PrintStream"), (.object "java/util/Properties"), (.object "java/lang/String"), (.object "java/lang/ModuleLayer")]
  resolved := Array.replicate 834 none
  statics := none }

def pool7 : Array CpInfo := pool [(1, .class_ 2), (0, u "java/io/Serializable"), (0, .class_ 4), (0, u "java/lang/Object")] 2

/-- java/io/Serializable -/
def k7 : Class := { plain "java/io/Serializable" (some 0) with
  accessFlags := 1537
  interfaces := #[]
  cf := some (fileOf pool7 1 #[] #[] 1537 3 #[] #[])
  fields := #[]
  methods := #[]
  instanceTypes := #[]
  staticTypes := #[]
  resolved := Array.replicate 7 none
  statics := none }

def pool8 : Array CpInfo := pool [(2, .class_ 4), (1, u "java/lang/Object"), (0, u "<init>"), (0, u "()V"), (1, .class_ 10), (1, u "java/lang/Number"), (2, .class_ 14), (0, u "java/io/Serializable"), (0, u "serialVersionUID"), (0, u "J")] 20

def k8m0 : Method := { name := "<init>", desc := "()V", sig := { parameters := [], returnType := none }, accessFlags := 1, code := none }
/-- java/lang/Number -/
def k8 : Class := { plain "java/lang/Number" (some 0) with
  accessFlags := 1057
  interfaces := #[7]
  cf := some (fileOf pool8 8 #[] #[{ accessFlags := 1, nameIndex := 5, descriptorIndex := 6, attributes := #[] }] 1057 2 #[13] #[{ accessFlags := 26, nameIndex := 15, descriptorIndex := 16, attributes := #[] }])
  fields := #[{ name := "serialVersionUID", type := .long, accessFlags := 26, slot := 0, constantValue := 0 }]
  methods := #[k8m0]
  instanceTypes := #[]
  staticTypes := #[.long]
  resolved := Array.replicate 37 none
  statics := none }

def pool9 : Array CpInfo := pool [(1, .class_ 2), (0, u "java/lang/constant/Constable"), (0, .class_ 4), (0, u "java/lang/Object")] 6

/-- java/lang/constant/Constable -/
def k9 : Class := { plain "java/lang/constant/Constable" (some 0) with
  accessFlags := 1537
  interfaces := #[]
  cf := some (fileOf pool9 1 #[] #[] 1537 3 #[] #[])
  fields := #[]
  methods := #[]
  instanceTypes := #[]
  staticTypes := #[]
  resolved := Array.replicate 11 none
  statics := none }

def pool10 : Array CpInfo := pool [(1, .class_ 2), (0, u "java/lang/constant/ConstantDesc"), (0, .class_ 4), (0, u "java/lang/Object")] 32

/-- java/lang/constant/ConstantDesc -/
def k10 : Class := { plain "java/lang/constant/ConstantDesc" (some 0) with
  accessFlags := 1537
  interfaces := #[]
  cf := some (fileOf pool10 1 #[] #[] 1537 3 #[] #[])
  fields := #[]
  methods := #[]
  instanceTypes := #[]
  staticTypes := #[]
  resolved := Array.replicate 37 none
  statics := none }

def pool11 : Array CpInfo := pool [(1, .class_ 2), (0, u "java/lang/Long"), (232, .class_ 237), (1, u "java/lang/Long$LongCache"), (33, .class_ 272), (0, u "java/lang/Number"), (2, u "value"), (0, u "J"), (27, u "compare"), (0, u "(JJ)I"), (55, u "TYPE"), (0, u "Ljava/lang/Class;"), (0, .class_ 364), (0, u "java/lang/Comparable"), (0, .class_ 366), (0, u "java/lang/constant/Constable"), (0, .class_ 368), (0, u "java/lang/constant/ConstantDesc"), (0, u "MIN_VALUE"), (1, u "MAX_VALUE"), (4, u "SIZE"), (0, u "I"), (1, u "BYTES"), (1, u "serialVersionUID")] 142

def k11c0 : Code := { maxStack := 4, maxLocals := 4, code := jdk_35_method_42_code, exceptionTable := #[], attributes := #[] }
def k11m0 : Method := { name := "compare", desc := "(JJ)I", sig := { parameters := [.long, .long], returnType := some .int }, accessFlags := 9, code := some k11c0 }
/-- java/lang/Long -/
def k11 : Class := { plain "java/lang/Long" (some 8) with
  accessFlags := 49
  interfaces := #[4, 9, 10]
  cf := some (fileOf pool11 1 #[.nestMembers #[235]] #[{ accessFlags := 9, nameIndex := 304, descriptorIndex := 305, attributes := #[] }] 49 271 #[363, 365, 367] #[{ accessFlags := 25, nameIndex := 369, descriptorIndex := 276, attributes := #[] }, { accessFlags := 25, nameIndex := 371, descriptorIndex := 276, attributes := #[] }, { accessFlags := 25, nameIndex := 361, descriptorIndex := 362, attributes := #[] }, { accessFlags := 18, nameIndex := 275, descriptorIndex := 276, attributes := #[] }, { accessFlags := 25, nameIndex := 376, descriptorIndex := 377, attributes := #[] }, { accessFlags := 25, nameIndex := 379, descriptorIndex := 377, attributes := #[] }, { accessFlags := 26, nameIndex := 381, descriptorIndex := 276, attributes := #[] }])
  fields := #[{ name := "MIN_VALUE", type := .long, accessFlags := 25, slot := 0, constantValue := 0 }, { name := "MAX_VALUE", type := .long, accessFlags := 25, slot := 1, constantValue := 0 }, { name := "TYPE", type := (.object "java/lang/Class"), accessFlags := 25, slot := 2, constantValue := 0 }, { name := "value", type := .long, accessFlags := 18, slot := 0, constantValue := 0 }, { name := "SIZE", type := .int, accessFlags := 25, slot := 3, constantValue := 0 }, { name := "BYTES", type := .int, accessFlags := 25, slot := 4, constantValue := 0 }, { name := "serialVersionUID", type := .long, accessFlags := 26, slot := 5, constantValue := 0 }]
  methods := #[k11m0]
  instanceTypes := #[.long]
  staticTypes := #[.long, .long, (.object "java/lang/Class"), .int, .int, .long]
  resolved := Array.replicate 524 none
  statics := none }

def pool12 : Array CpInfo := pool [(1, u "java/lang/Cloneable"), (0, .class_ 1), (0, u "java/lang/Object"), (0, .class_ 3)] 3

/-- java/lang/Cloneable -/
def k12 : Class := { plain "java/lang/Cloneable" (some 0) with
  accessFlags := 1537
  interfaces := #[]
  cf := some (fileOf pool12 2 #[] #[] 1537 4 #[] #[])
  fields := #[]
  methods := #[]
  instanceTypes := #[]
  staticTypes := #[]
  resolved := Array.replicate 8 none
  statics := none }

/-- the primitive byte -/
def k13 : Class := { plain "byte" none with kind := .primitive 'B', accessFlags := 0x411 }
/-- [B -/
def k14 : Class := { plain "[B" (some 0) with kind := .array 13 .byte, interfaces := #[12, 7], accessFlags := 1041 }

/-- the primitive int -/
def k15 : Class := { plain "int" none with kind := .primitive 'I', accessFlags := 0x411 }
/-- [I -/
def k16 : Class := { plain "[I" (some 0) with kind := .array 15 .int, interfaces := #[12, 7], accessFlags := 1041 }

/-- the primitive long -/
def k17 : Class := { plain "long" none with kind := .primitive 'J', accessFlags := 0x411 }
/-- [J -/
def k18 : Class := { plain "[J" (some 0) with kind := .array 17 .long, interfaces := #[12, 7], accessFlags := 1041 }

def heap : Heap := #[]
def classes : Array Class := #[k0, k1, k2, k3, k4, k5, k6, k7, k8, k9, k10, k11, k12, k13, k14, k15, k16, k17, k18]
def interned : List (Array UInt16 × Addr) := []
def slotsUsed : Nat := 0
def theMethod : MethodId := ⟨1, 2⟩
def args0 : Array Value := #[.int 5, .int 7, .int 3, .int 9]
def aboutOver (below : List Frame) : State where
  vm := { classes := classes, interned := interned.toArray }
  heap := heap
  slotsUsed := slotsUsed
  threads := #[{ frames := .invoking theMethod args0 :: below }]
def below0 : List Frame := [.native { method := ⟨0, 0⟩, args := #[] }]
def about1 : State := aboutOver below0
def p0 : Program := .bare "" "" ""
def e0 : Env := launch0.env 0 0 0
theorem w_frames : about1.frames = Frame.invoking theMethod args0 :: below0 := rfl
set_option maxRecDepth 65536 in
theorem w_args : argsFit about1.vm theMethod args0 = true := by decide +kernel
set_option maxRecDepth 65536 in
theorem w_heap : heapFits about1 = true := by decide +kernel
set_option maxRecDepth 65536 in
theorem w_runnable : about1.curStatus? = some .runnable := by decide +kernel
set_option maxRecDepth 65536 in
theorem w_alone : about1.alone = true := by decide +kernel
set_option maxRecDepth 65536 in
theorem w_named : about1.methodNamed? x = some theMethod := by decide +kernel
set_option maxRecDepth 65536 in
theorem w_hears : about1.hears theMethod below0 = true := by decide +kernel
set_option maxRecDepth 65536 in
theorem w_ripe : about1.ripe theMethod args0 below0 = true := by decide +kernel
theorem w_running : about1.status = .running := rfl
set_option maxRecDepth 65536 in
theorem w_room : about1.hasRoom e0.platform room_1 = true :=
  launch0.hasRoom_least _ room_1 (by decide +kernel) (by decide +kernel) (by decide +kernel) (by decide +kernel) (by decide +kernel) (by decide +kernel)
theorem allAtoms_all (ts : List Jvm.Cond) (a : Array Jvm.Value) (st : Jvm.State) : (allAtoms ts).before a st = ts.all (fun c => c.before a st) := by
  induction ts with
  | nil => rfl
  | cons c t ih =>
    show (Jvm.Cond.and c (allAtoms t)).before a st = _
    rw [Jvm.Cond.before_and, ih, List.all_cons]
def words1 : List Jvm.Cond := Jvm.Cond.code x code maxLocals ret :: tables_1
/-- a 'code' word, met by the world's own term for the bytes: nothing is compared byte by byte -/
theorem code_word {y : MethodName} {bytes : ByteArray} {mx : Nat} {rt : Option FieldType} {a : Array Value} {s : State} {m : MethodId} {meth : Method} {c : Code} (h1 : s.methodNamed? y = some m) (h2 : s.vm.method? m = some meth) (h3 : meth.code = some c) (h4 : c.code = bytes)
    (h5 : (c.maxLocals == mx && c.exceptionTable.isEmpty && decide (c.maxStack ≤ mostOperands) && decide (meth.sig.returnType = rt) && !meth.locks && decide (parseMethodDescriptor y.desc = some meth.sig)) = true) : (Jvm.Cond.code y bytes mx rt).before a s = true := by
  simp only [Bool.and_eq_true, beq_iff_eq, Bool.not_eq_true', decide_eq_true_eq] at h5
  obtain ⟨⟨⟨⟨⟨g1, g2⟩, g3⟩, g4⟩, g5⟩, g6⟩ := h5
  simp [Cond.before, Cond.holds, Cond.value, h1, h2, h3, h4, g1, g2, g3, g4, g5, g6]
def isCode : Jvm.Cond → Bool
  | .code _ _ _ _ => true
  | _ => false
theorem all_split {L : List Jvm.Cond} {P : Jvm.Cond → Bool} (h1 : L.all (fun c => isCode c || P c) = true) (h2 : ∀ c ∈ L.filter isCode, P c = true) : L.all P = true := by
  refine List.all_eq_true.mpr fun c hc => ?_
  have h := List.all_eq_true.mp h1 c hc
  rcases Bool.eq_false_or_eq_true (isCode c) with hi | hi
  · exact h2 c (List.mem_filter.mpr ⟨hc, hi⟩)
  · simpa [hi] using h
set_option maxRecDepth 65536 in
theorem w_c0 : (Jvm.Cond.code x code maxLocals ret).before args0 about1 = true := code_word (m := ⟨1, 2⟩) (meth := k1m2) (c := k1c2) (by decide +kernel) rfl rfl rfl (by decide +kernel)
set_option maxRecDepth 65536 in
theorem w_c1 : (Jvm.Cond.code ({ cls := "tidemark/protocol/Raises", name := "<init>", desc := "()V" } : Jvm.MethodName) prog_79_method_1_code (1 : Nat) (Option.none : Option Jvm.ClassFile.FieldType)).before args0 about1 = true := code_word (m := ⟨2, 0⟩) (meth := k2m0) (c := k2c0) (by decide +kernel) rfl rfl rfl (by decide +kernel)
set_option maxRecDepth 65536 in
theorem w_c2 : (Jvm.Cond.code ({ cls := "java/lang/Object", name := "<init>", desc := "()V" } : Jvm.MethodName) object_method_1_code (1 : Nat) (Option.none : Option Jvm.ClassFile.FieldType)).before args0 about1 = true := code_word (m := ⟨0, 0⟩) (meth := k0m0) (c := k0c0) (by decide +kernel) rfl rfl rfl (by decide +kernel)
set_option maxRecDepth 65536 in
theorem w_c3 : (Jvm.Cond.code ({ cls := "tidemark/model/Stamp", name := "<init>", desc := "(JI)V" } : Jvm.MethodName) prog_50_method_1_code (4 : Nat) (Option.none : Option Jvm.ClassFile.FieldType)).before args0 about1 = true := code_word (m := ⟨5, 0⟩) (meth := k5m0) (c := k5c0) (by decide +kernel) rfl rfl rfl (by decide +kernel)
set_option maxRecDepth 65536 in
theorem w_c4 : (Jvm.Cond.code ({ cls := "java/lang/Record", name := "<init>", desc := "()V" } : Jvm.MethodName) jdk_30_method_1_code (1 : Nat) (Option.none : Option Jvm.ClassFile.FieldType)).before args0 about1 = true := code_word (m := ⟨3, 0⟩) (meth := k3m0) (c := k3c0) (by decide +kernel) rfl rfl rfl (by decide +kernel)
set_option maxRecDepth 65536 in
theorem w_c5 : (Jvm.Cond.code ({ cls := "tidemark/protocol/Raises", name := "add", desc := "(JLtidemark/model/Stamp;)V" } : Jvm.MethodName) prog_79_method_2_code (10 : Nat) (Option.none : Option Jvm.ClassFile.FieldType)).before args0 about1 = true := code_word (m := ⟨2, 1⟩) (meth := k2m1) (c := k2c1) (by decide +kernel) rfl rfl rfl (by decide +kernel)
set_option maxRecDepth 65536 in
theorem w_c6 : (Jvm.Cond.code ({ cls := "tidemark/model/Stamp", name := "counter", desc := "()J" } : Jvm.MethodName) prog_50_method_7_code (1 : Nat) (Option.some Jvm.ClassFile.FieldType.long)).before args0 about1 = true := code_word (m := ⟨5, 3⟩) (meth := k5m3) (c := k5c3) (by decide +kernel) rfl rfl rfl (by decide +kernel)
set_option maxRecDepth 65536 in
theorem w_c7 : (Jvm.Cond.code ({ cls := "tidemark/model/Stamp", name := "member", desc := "()I" } : Jvm.MethodName) prog_50_method_8_code (1 : Nat) (Option.some Jvm.ClassFile.FieldType.int)).before args0 about1 = true := code_word (m := ⟨5, 4⟩) (meth := k5m4) (c := k5c4) (by decide +kernel) rfl rfl rfl (by decide +kernel)
set_option maxRecDepth 65536 in
theorem w_c8 : (Jvm.Cond.code ({ cls := "tidemark/protocol/Raises", name := "floor", desc := "(J)I" } : Jvm.MethodName) prog_79_method_6_code (6 : Nat) (Option.some Jvm.ClassFile.FieldType.int)).before args0 about1 = true := code_word (m := ⟨2, 4⟩) (meth := k2m4) (c := k2c4) (by decide +kernel) rfl rfl rfl (by decide +kernel)
set_option maxRecDepth 65536 in
theorem w_c9 : (Jvm.Cond.code ({ cls := "tidemark/protocol/Raises", name := "compare", desc := "(IJI)I" } : Jvm.MethodName) prog_79_method_7_code (6 : Nat) (Option.some Jvm.ClassFile.FieldType.int)).before args0 about1 = true := code_word (m := ⟨2, 5⟩) (meth := k2m5) (c := k2c5) (by decide +kernel) rfl rfl rfl (by decide +kernel)
set_option maxRecDepth 65536 in
theorem w_c10 : (Jvm.Cond.code ({ cls := "java/lang/Long", name := "compare", desc := "(JJ)I" } : Jvm.MethodName) jdk_35_method_42_code (4 : Nat) (Option.some Jvm.ClassFile.FieldType.int)).before args0 about1 = true := code_word (m := ⟨11, 0⟩) (meth := k11m0) (c := k11c0) (by decide +kernel) rfl rfl rfl (by decide +kernel)
set_option maxRecDepth 65536 in
theorem w_c11 : (Jvm.Cond.code ({ cls := "tidemark/protocol/Raises", name := "forget", desc := "(I)V" } : Jvm.MethodName) prog_79_method_4_code (4 : Nat) (Option.none : Option Jvm.ClassFile.FieldType)).before args0 about1 = true := code_word (m := ⟨2, 3⟩) (meth := k2m3) (c := k2c3) (by decide +kernel) rfl rfl rfl (by decide +kernel)
set_option maxRecDepth 65536 in
theorem w_c12 : (Jvm.Cond.code ({ cls := "tidemark/protocol/Raises", name := "stamp", desc := "(JLtidemark/model/Stamp;)Ltidemark/model/Stamp;" } : Jvm.MethodName) prog_79_method_3_code (7 : Nat) (Option.some (Jvm.ClassFile.FieldType.object "tidemark/model/Stamp"))).before args0 about1 = true := code_word (m := ⟨2, 2⟩) (meth := k2m2) (c := k2c2) (by decide +kernel) rfl rfl rfl (by decide +kernel)
set_option maxRecDepth 65536 in
theorem w_c13 : (Jvm.Cond.code ({ cls := "tidemark/model/Stamp", name := "isAfter", desc := "(Ltidemark/model/Stamp;)Z" } : Jvm.MethodName) prog_50_method_3_code (2 : Nat) (Option.some Jvm.ClassFile.FieldType.boolean)).before args0 about1 = true := code_word (m := ⟨5, 2⟩) (meth := k5m2) (c := k5c2) (by decide +kernel) rfl rfl rfl (by decide +kernel)
set_option maxRecDepth 65536 in
theorem w_c14 : (Jvm.Cond.code ({ cls := "tidemark/model/Stamp", name := "compareTo", desc := "(Ltidemark/model/Stamp;)I" } : Jvm.MethodName) prog_50_method_2_code (3 : Nat) (Option.some Jvm.ClassFile.FieldType.int)).before args0 about1 = true := code_word (m := ⟨5, 1⟩) (meth := k5m1) (c := k5c1) (by decide +kernel) rfl rfl rfl (by decide +kernel)
set_option maxRecDepth 65536 in
theorem w_c15 : (Jvm.Cond.code ({ cls := "tidemark/protocol/RaisesForgetPinLaw", name := "same", desc := "(Ltidemark/model/Stamp;JI)Z" } : Jvm.MethodName) method_2_code (4 : Nat) (Option.some Jvm.ClassFile.FieldType.boolean)).before args0 about1 = true := code_word (m := ⟨1, 1⟩) (meth := k1m1) (c := k1c1) (by decide +kernel) rfl rfl rfl (by decide +kernel)
def codes1 : List Jvm.Cond := [Jvm.Cond.code x code maxLocals ret, Jvm.Cond.code ({ cls := "tidemark/protocol/Raises", name := "<init>", desc := "()V" } : Jvm.MethodName) prog_79_method_1_code (1 : Nat) (Option.none : Option Jvm.ClassFile.FieldType), Jvm.Cond.code ({ cls := "java/lang/Object", name := "<init>", desc := "()V" } : Jvm.MethodName) object_method_1_code (1 : Nat) (Option.none : Option Jvm.ClassFile.FieldType), Jvm.Cond.code ({ cls := "tidemark/model/Stamp", name := "<init>", desc := "(JI)V" } : Jvm.MethodName) prog_50_method_1_code (4 : Nat) (Option.none : Option Jvm.ClassFile.FieldType), Jvm.Cond.code ({ cls := "java/lang/Record", name := "<init>", desc := "()V" } : Jvm.MethodName) jdk_30_method_1_code (1 : Nat) (Option.none : Option Jvm.ClassFile.FieldType), Jvm.Cond.code ({ cls := "tidemark/protocol/Raises", name := "add", desc := "(JLtidemark/model/Stamp;)V" } : Jvm.MethodName) prog_79_method_2_code (10 : Nat) (Option.none : Option Jvm.ClassFile.FieldType), Jvm.Cond.code ({ cls := "tidemark/model/Stamp", name := "counter", desc := "()J" } : Jvm.MethodName) prog_50_method_7_code (1 : Nat) (Option.some Jvm.ClassFile.FieldType.long), Jvm.Cond.code ({ cls := "tidemark/model/Stamp", name := "member", desc := "()I" } : Jvm.MethodName) prog_50_method_8_code (1 : Nat) (Option.some Jvm.ClassFile.FieldType.int), Jvm.Cond.code ({ cls := "tidemark/protocol/Raises", name := "floor", desc := "(J)I" } : Jvm.MethodName) prog_79_method_6_code (6 : Nat) (Option.some Jvm.ClassFile.FieldType.int), Jvm.Cond.code ({ cls := "tidemark/protocol/Raises", name := "compare", desc := "(IJI)I" } : Jvm.MethodName) prog_79_method_7_code (6 : Nat) (Option.some Jvm.ClassFile.FieldType.int), Jvm.Cond.code ({ cls := "java/lang/Long", name := "compare", desc := "(JJ)I" } : Jvm.MethodName) jdk_35_method_42_code (4 : Nat) (Option.some Jvm.ClassFile.FieldType.int), Jvm.Cond.code ({ cls := "tidemark/protocol/Raises", name := "forget", desc := "(I)V" } : Jvm.MethodName) prog_79_method_4_code (4 : Nat) (Option.none : Option Jvm.ClassFile.FieldType), Jvm.Cond.code ({ cls := "tidemark/protocol/Raises", name := "stamp", desc := "(JLtidemark/model/Stamp;)Ltidemark/model/Stamp;" } : Jvm.MethodName) prog_79_method_3_code (7 : Nat) (Option.some (Jvm.ClassFile.FieldType.object "tidemark/model/Stamp")), Jvm.Cond.code ({ cls := "tidemark/model/Stamp", name := "isAfter", desc := "(Ltidemark/model/Stamp;)Z" } : Jvm.MethodName) prog_50_method_3_code (2 : Nat) (Option.some Jvm.ClassFile.FieldType.boolean), Jvm.Cond.code ({ cls := "tidemark/model/Stamp", name := "compareTo", desc := "(Ltidemark/model/Stamp;)I" } : Jvm.MethodName) prog_50_method_2_code (3 : Nat) (Option.some Jvm.ClassFile.FieldType.int), Jvm.Cond.code ({ cls := "tidemark/protocol/RaisesForgetPinLaw", name := "same", desc := "(Ltidemark/model/Stamp;JI)Z" } : Jvm.MethodName) method_2_code (4 : Nat) (Option.some Jvm.ClassFile.FieldType.boolean)]
set_option maxRecDepth 65536 in
theorem codes_eq : words1.filter isCode = codes1 := rfl
theorem w_codes : ∀ c ∈ words1.filter isCode, c.before args0 about1 = true := by
  rw [codes_eq]
  intro c hc
  simp only [codes1, List.mem_cons, List.not_mem_nil, or_false] at hc
  rcases hc with rfl | rfl | rfl | rfl | rfl | rfl | rfl | rfl | rfl | rfl | rfl | rfl | rfl | rfl | rfl | rfl
  · exact w_c0
  · exact w_c1
  · exact w_c2
  · exact w_c3
  · exact w_c4
  · exact w_c5
  · exact w_c6
  · exact w_c7
  · exact w_c8
  · exact w_c9
  · exact w_c10
  · exact w_c11
  · exact w_c12
  · exact w_c13
  · exact w_c14
  · exact w_c15
set_option maxRecDepth 65536 in
theorem w_t1 : (words1.take 24).all (fun c => isCode c || c.before args0 about1) = true := by decide +kernel
set_option maxRecDepth 65536 in
theorem w_t2 : ((words1.drop 24).take 24).all (fun c => isCode c || c.before args0 about1) = true := by decide +kernel
set_option maxRecDepth 65536 in
theorem w_t3 : (((words1.drop 24).drop 24).take 24).all (fun c => isCode c || c.before args0 about1) = true := by decide +kernel
set_option maxRecDepth 65536 in
theorem w_t4 : ((((words1.drop 24).drop 24).drop 24).take 24).all (fun c => isCode c || c.before args0 about1) = true := by decide +kernel
set_option maxRecDepth 65536 in
theorem w_t5 : ((((words1.drop 24).drop 24).drop 24).drop 24).all (fun c => isCode c || c.before args0 about1) = true := by decide +kernel
theorem w_tables : (allAtoms (Jvm.Cond.code x code maxLocals ret :: tables_1)).before args0 about1 = true := by
  rw [allAtoms_all]
  show words1.all (fun c => c.before args0 about1) = true
  refine all_split ?_ w_codes
  rw [← List.take_append_drop 24 words1, List.all_append, w_t1, ← List.take_append_drop 24 (words1.drop 24), List.all_append, w_t2, ← List.take_append_drop 24 ((words1.drop 24).drop 24), List.all_append, w_t3, ← List.take_append_drop 24 (((words1.drop 24).drop 24).drop 24), List.all_append, w_t4, w_t5]
  rfl
set_option maxRecDepth 65536 in
theorem w_case : (Jvm.Cond.and given_1 narrow_1).before args0 about1 = true := by decide +kernel
theorem w_applies : (headSpec (Jvm.Cond.code x code maxLocals ret :: tables_1) room_1).applies x e0.platform about1 = true :=
  (Spec.applies_iff w_frames).mpr ⟨w_running, w_runnable, w_alone, w_named, w_hears, w_ripe, w_room, w_tables⟩
theorem atStart : AtStart classFile x code maxLocals ret World_1 tables_1 room_1 Calls_1 rest_1 Pre_1 launch0 p0 e0 about1 theMethod args0 below0 :=
  ⟨lists_1, trivial, launch0.admits_env _ _ _, launch0.least_env, fairChoices_fair.cas, fairChoices_fair.clock, w_frames, w_args, w_heap, w_applies, trivial, trivial, w_case⟩
end start1
theorem witness_1 : WitnessClaimed_1 := ⟨start1.p0, start1.e0, start1.about1, start1.theMethod, start1.args0, start1.below0, start1.atStart⟩
end Jvm.Pilot.@@N@@
